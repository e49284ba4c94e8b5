/- The thin package's way back walked: listFromGo. -/
import Derived.Test.YtjpcdbopioblaaaDoorFromGo
namespace Go.Proofs.YtjpcdbopioblaaaDoor
open Go.RowKit

theorem Tryd.infoValue : (Tryd.prog.info? 26).map (fun i => (i.zero, i.size, i.bytes)) = some (some (.agg #[.int .i64 0, .int .i64 0, .string ByteArray.empty, .slice none 0 0, .slice none 0 0, .slice none 0 0]), 6, 104) := by kernel_rfl

theorem cell_six_new (w : World) (c0 c1 c2 c3 c4 c5 : Value) (t : TypeId) : ∀ j u, [c0, c1, c2, c3, c4, c5][j]? = some u → (w.alloc (.cells #[c0, c1, c2, c3, c4, c5] t)).cell? ((⟨w.heap.size, 0, none⟩ : Addr).add j) = some u := by
  intro j u hj
  match j, hj with
  | 0, hj => simp at hj; subst hj; simp [Addr.add]
  | 1, hj => simp at hj; subst hj; simp [Addr.add]
  | 2, hj => simp at hj; subst hj; simp [Addr.add]
  | 3, hj => simp at hj; subst hj; simp [Addr.add]
  | 4, hj => simp at hj; subst hj; simp [Addr.add]
  | 5, hj => simp at hj; subst hj; simp [Addr.add]
  | (j + 6), hj => simp at hj

/-- The way back, up to so many nodes. -/
def FromIH (n : Nat) : Prop := ∀ (y : RV) (x : Value) (w : World) (base : Nat), y.nodes ≤ n → y.Good → y.Sized → y.Go w base x → Calls Tryd.prog 74 #[x] w (FromPost y w)

/-- The list that is being made. -/
structure OutL (w : World) (l : List RV) (i : Nat) (sl : Value) (wr : World) : Prop where
  below : Below w.heap.size w wr
  lt : w.heap.size + 1 < wr.heap.size
  row : RowOf (w.heap.size + 2) wr sl l i
  cells : ∀ o, wr.cell? ⟨w.heap.size + 1, o, none⟩ = (#[.int .i64 5, .int .i64 0, .string ByteArray.empty, sl, .slice none 0 0, .slice none 0 0] : Array Value)[o]?
  frozen : ∀ o, wr.frozen? ⟨w.heap.size + 1, o, none⟩ = false
  res : ∀ o, wr.cell? ⟨w.heap.size, o, none⟩ = (#[.int .i64 0, .int .i64 0, .string ByteArray.empty, .slice none 0 0, .slice none 0 0, .slice none 0 0] : Array Value)[o]?
  rfrozen : ∀ o, wr.frozen? ⟨w.heap.size, o, none⟩ = false

theorem OutL.push {w wr w1 W2 w3 : World} {l : List RV} {i : Nat} {sl sl' c0 c1 c2 c3 c4 c5 : Value} (h : OutL w l i sl wr) (hi : i < l.length) (hb1 : Below wr.heap.size wr w1) (hh : l[i].Here wr.heap.size w1 (.agg #[c0, c1, c2, c3, c4, c5]))
    (hbW : Below w1.heap.size w1 W2) (xs : List Value) (hown : W2.ownsRow (w.heap.size + 2) 26 6 sl i xs) (hel : ∀ (j : Nat) (_ : j < i) (h : j < l.length), Elem (w.heap.size + 2) W2 sl.ownBlock l[j] ((xs.drop (j * 6)).take 6))
    (hown' : w3.ownsRow (w.heap.size + 2) 26 6 sl' (i + 1) (xs ++ [c0, c1, c2, c3, c4, c5])) (hg3 : W2.grownBy w3 sl.ownBlock) (hwh : sl'.ownBlock = sl.ownBlock ∨ sl'.ownBlock = some W2.heap.size) :
    OutL w l (i + 1) sl' (w3.setCell ⟨w.heap.size + 1, 3, none⟩ sl') := by
  have hlt := h.lt
  have z1 := hb1.size
  have z2 := hbW.size
  have z3 := hg3.size
  have hne : ∀ g, g < w.heap.size + 2 → some g ≠ sl.ownBlock := fun g hg e => by have := (h.row.lt _ e.symm).1; omega
  have hb2 : Below w.heap.size w W2 := (h.below.trans (hb1.mono h.below.size)).trans (hbW.mono (Nat.le_trans h.below.size z1))
  have hb3 : Below w.heap.size w w3 := hb2.grown hg3 hb2.size (fun g e => by have := (h.row.lt g e).1; omega)
  have heap : ∀ g, g < w.heap.size + 2 → w3.heap[g]? = wr.heap[g]? := fun g hg =>
    ((hg3.block g (by omega) (hne g hg)).trans (hbW.block g (by omega))).trans (hb1.block g (by omega))
  have cell : ∀ g o, g < w.heap.size + 2 → w3.cell? ⟨g, o, none⟩ = wr.cell? ⟨g, o, none⟩ := fun g o hg => World.cell?_of_block (heap g hg)
  have froz : ∀ g o, g < w.heap.size + 2 → w3.frozen? ⟨g, o, none⟩ = wr.frozen? ⟨g, o, none⟩ := fun g o hg => World.frozen?_of_block (heap g hg)
  have other : ∀ g, g ≠ w.heap.size + 1 → (w3.setCell ⟨w.heap.size + 1, 3, none⟩ sl').heap[g]? = w3.heap[g]? := fun g hg => Below.heap_setCell w3 ⟨w.heap.size + 1, 3, none⟩ sl' g hg
  have hrow : RowOf (w.heap.size + 2) w3 sl' l (i + 1) := RowOf.push ⟨xs, hown, hel⟩ hi ⟨c0, c1, c2, c3, c4, c5, wr.heap.size, w1.heap.size, rfl, by omega, by omega, fun g hg e => by have := (h.row.lt g hg).2; omega, fun wx hx => hh wx fun kk h1 h2 => (hx kk h1 h2).trans (hbW.block kk h2)⟩ xs hel hown.1 hown' hg3 hwh
  have hsz : (w3.setCell ⟨w.heap.size + 1, 3, none⟩ sl').heap.size = w3.heap.size := by simp [World.setCell]
  refine ⟨hb3.setCell (Nat.le_succ _) sl', by rw [hsz]; omega, hrow.step (fun k hk _ => other k (by omega)) (by rw [hsz]; exact Nat.le_refl _), fun o => ?_, fun o => ?_, fun o => ?_, fun o => ?_⟩
  · by_cases ho : o = 3
    · subst ho
      rw [World.cell?_setCell_same _ _ _ ((cell (w.heap.size + 1) 3 (by omega)).trans (h.cells 3))]
      rfl
    · rw [World.cell?_setCell_other _ _ _ _ (by intro e; injection e with _ e2; exact ho e2.symm), cell (w.heap.size + 1) o (by omega), h.cells o]
      match o, ho with
      | 0, _ => rfl
      | 1, _ => rfl
      | 2, _ => rfl
      | 4, _ => rfl
      | 5, _ => rfl
      | (n + 6), _ => simp
  · rw [World.frozen?_setCell, froz (w.heap.size + 1) o (by omega)]; exact h.frozen o
  · rw [World.cell?_of_block (other w.heap.size (by omega)), cell w.heap.size o (by omega)]; exact h.res o
  · rw [World.frozen?_of_block (other w.heap.size (by omega)), froz w.heap.size o (by omega)]; exact h.rfrozen o

theorem OutL.start (w : World) (l : List RV) : OutL w l 0 (.slice none 0 0) ((w.alloc (.cells #[.int .i64 0, .int .i64 0, .string ByteArray.empty, .slice none 0 0, .slice none 0 0, .slice none 0 0] 26)).alloc (.cells #[.int .i64 5, .int .i64 0, .string ByteArray.empty, .slice none 0 0, .slice none 0 0, .slice none 0 0] 26)) := by
  refine ⟨((Below.refl w.heap.size w).alloc (Nat.le_refl _) _).alloc (by simp) _, by simp, ⟨[], World.ownsRow_nil _ _ _ _, fun j hj => absurd hj (Nat.not_lt_zero _)⟩, fun o => ?_, fun o => ?_, fun o => ?_, fun o => ?_⟩
  · have e : (w.alloc (.cells #[.int .i64 0, .int .i64 0, .string ByteArray.empty, .slice none 0 0, .slice none 0 0, .slice none 0 0] 26)).heap.size = w.heap.size + 1 := by simp
    rw [← e]
    exact cell_of_row _ _ o _ 26 (0, 0) (heap_alloc_new _ _)
  · simp
  · exact cell_of_row _ _ o _ 26 (0, 0) ((Go.heap_alloc_old (w.alloc (.cells #[.int .i64 0, .int .i64 0, .string ByteArray.empty, .slice none 0 0, .slice none 0 0, .slice none 0 0] 26)) _ (r := w.heap.size) (by simp)).trans (heap_alloc_new _ _))
  · simp

set_option maxRecDepth 100000 in
set_option maxHeartbeats 4000000 in
theorem listFromGo_any (n : Nat) (ih : FromIH n) (l : List RV) (a : Option Addr) (cap : Nat) (w : World) (base : Nat) (hn : RV.nodesL l ≤ n) (hg : RV.GoodL l) (hs : ∀ (j : Nat) (h : j < l.length), l[j].Sized) (hl : l.length ≤ 100000) (hy : RV.GoL w base a 0 l) :
    Calls Tryd.prog 87 #[.slice a l.length cap] w (FromPost (.mk 5 0 ByteArray.empty l [] []) w) := by
  have HY := Lib.hid hy
  have HG := Lib.hid hg
  have HS := Lib.hid hs
  have HN := Lib.hid hn
  have HIH := Lib.hid ih
  clear hy hg hs hn ih
  unfold FromPost
  go_enter Tryd.func87, Tryd.ntmps87
  go_wp2_with fail
  go_loopg [12] (l.length) (fun gk s12 wr => ∃ (i : Nat) (sl : Value), s12 = .int .i64 i ∧ i ≤ l.length ∧ gk = l.length - i ∧ Hid (OutL w l i sl wr))
  case atStart =>
    refine ⟨0, .slice none 0 0, rfl, Nat.zero_le _, rfl, Lib.hid ?_⟩
    exact OutL.start w l
  case round =>
    obtain ⟨i, sl, rfl, hi, rfl, HR⟩ := hrel
    by_cases hlt : i < l.length
    · obtain ⟨ab, ao, x, rfl, hab, ga, hgx⟩ := (HY.out.same (SameFrom.of_below HR.out.below base)).get i hlt
      simp only [Nat.zero_add] at ga
      have HGX := Lib.hid hgx
      have hj1 : (i : Int) < (l.length : Int) := by omega
      clear hgx hi
      go_wp2_with fail
      refine (HIH.out l[i] x wr base (by have := RV.nodes_le hlt; have := HN.out; omega) (HG.out.get i hlt) (HS.out i hlt) HGX.out).mono ?_
      rintro e w1 ⟨v, rfl, hh, hb1⟩
      obtain ⟨k, h, t, al, m, cl, ak, mk, ck, av, mv, cv, rfl⟩ : ∃ k h t al n cl ak m ck av q cv, v = .agg #[.int .i64 k, .int .i64 h, .string t, .slice al n cl, .slice ak m ck, .slice av q cv] := by
        have hr' := hh.rep
        generalize l[i] = y at hr'
        obtain ⟨k, h, t, l, ks, vs⟩ := y
        unfold RV.Rep at hr'
        obtain ⟨al, cl, ak, ck, av, cv, e, _⟩ := hr'
        exact ⟨_, _, _, _, _, _, _, _, _, _, _, _, e⟩
      have HH := Lib.hid hh
      have HB1 := Lib.hid hb1
      have hO : w.heap.size + 1 < wr.heap.size := HR.out.lt
      have hz1 : wr.heap.size ≤ w1.heap.size := hb1.size
      have q3 : w1.cell? ⟨w.heap.size + 1, 3, none⟩ = some sl := ((bcell hb1).1 _ _ hO).trans (HR.out.cells 3)
      have f3 : w1.frozen? ⟨w.heap.size + 1, 3, none⟩ = false := ((bcell hb1).2 _ _ hO).trans (HR.out.frozen 3)
      have hO1 : w.heap.size + 1 < w1.heap.size := by omega
      have hO2 : w.heap.size + 1 ≠ w1.heap.size := by omega
      have hO3 : w.heap.size + 1 ≠ w1.heap.size + 1 := by omega
      obtain ⟨i0, hi0, hz0, hzs, hzb⟩ := info_parts Tryd.infoValue
      have HI := Lib.hid (And.intro hi0 (And.intro hz0 (And.intro hzs hzb)))
      have hrow2 := HR.out.row.step (w' := (w1.alloc (.cells #[.int .i64 k, .int .i64 h, .string t, .slice al m cl, .slice ak mk ck, .slice av mv cv] 26)).alloc (.cells #[.int .i64 k, .int .i64 h, .string t, .slice al m cl, .slice ak mk ck, .slice av mv cv] 26)) (fun kk _ hk => (((Below.refl w1.heap.size w1).alloc (Nat.le_refl _) (.cells #[.int .i64 k, .int .i64 h, .string t, .slice al m cl, .slice ak mk ck, .slice av mv cv] 26)).alloc (by simp) (.cells #[.int .i64 k, .int .i64 h, .string t, .slice al m cl, .slice ak mk ck, .slice av mv cv] 26) |>.block kk (by omega)).trans (hb1.block kk hk)) (by simp; omega)
      obtain ⟨xs, hown, hel⟩ := hrow2
      have HOWN := Lib.hid hown
      have HEL := Lib.hid hel
      have hnew : ∀ j u, ([.int .i64 k, .int .i64 h, .string t, .slice al m cl, .slice ak mk ck, .slice av mv cv] : List Value)[j]? = some u → ((w1.alloc (.cells #[.int .i64 k, .int .i64 h, .string t, .slice al m cl, .slice ak mk ck, .slice av mv cv] 26)).alloc (.cells #[.int .i64 k, .int .i64 h, .string t, .slice al m cl, .slice ak mk ck, .slice av mv cv] 26)).cell? ((⟨w1.heap.size + 1, 0, none⟩ : Addr).add j) = some u := by
        have hq := cell_six_new (w1.alloc (.cells #[.int .i64 k, .int .i64 h, .string t, .slice al m cl, .slice ak mk ck, .slice av mv cv] 26)) (.int .i64 k) (.int .i64 h) (.string t) (.slice al m cl) (.slice ak mk ck) (.slice av mv cv) 26
        have e : (w1.alloc (.cells #[.int .i64 k, .int .i64 h, .string t, .slice al m cl, .slice ak mk ck, .slice av mv cv] 26)).heap.size = w1.heap.size + 1 := by simp
        rw [e] at hq; exact hq
      have HNEW := Lib.hid hnew
      have HLT := Lib.hid hown.lt
      have hne : some (w.heap.size + 1) ≠ sl.ownBlock := fun e => by have := (hown.lt _ e.symm).1; omega
      have hbW : Below w1.heap.size w1 ((w1.alloc (.cells #[.int .i64 k, .int .i64 h, .string t, .slice al m cl, .slice ak mk ck, .slice av mv cv] 26)).alloc (.cells #[.int .i64 k, .int .i64 h, .string t, .slice al m cl, .slice ak mk ck, .slice av mv cv] 26)) := ((Below.refl w1.heap.size w1).alloc (Nat.le_refl _) _).alloc (by simp) _
      have hFacts : ∀ w3, ((w1.alloc (.cells #[.int .i64 k, .int .i64 h, .string t, .slice al m cl, .slice ak mk ck, .slice av mv cv] 26)).alloc (.cells #[.int .i64 k, .int .i64 h, .string t, .slice al m cl, .slice ak mk ck, .slice av mv cv] 26)).grownBy w3 sl.ownBlock → w3.cell? ⟨w.heap.size + 1, 3, none⟩ = some sl ∧ w3.frozen? ⟨w.heap.size + 1, 3, none⟩ = false := fun w3 hg3 =>
        ⟨hg3.cell (((bcell hbW).1 _ _ hO1).trans q3) hne, (World.frozen?_of_block (hg3.block (w.heap.size + 1) (Nat.lt_of_lt_of_le hO1 hbW.size) hne)).trans (((bcell hbW).2 _ _ hO1).trans f3)⟩
      have HBW := Lib.hid hbW
      have HF := Lib.hid hFacts
      clear hh hb1 hi0 hz0 hzs hzb hown hel hnew hne hFacts hbW
      go_wp2_with (at_builtin; refine wpList_append_where _ rfl _ _ 23 rfl (w.heap.size + 2) 26 i0 (.agg #[.int .i64 0, .int .i64 0, .string ByteArray.empty, .slice none 0 0, .slice none 0 0, .slice none 0 0]) 6 104 Tryd.underlying23 HI.out.1 HI.out.2.1 HI.out.2.2.1 HI.out.2.2.2 rfl (by decide) sl i xs rfl HOWN.out ⟨w1.heap.size + 1, 0, none⟩ 1 1 [.int .i64 k, .int .i64 h, .string t, .slice al m cl, .slice ak mk ck, .slice av mv cv] rfl rfl HNEW.out (fun x hx => by simp at hx; rcases hx with rfl | rfl | rfl | rfl | rfl | rfl <;> rfl) (by decide) (by unfold maxLen; omega) (by omega) (by simp; omega) ?_; intro v' w3 hown' hgrow3 hwhere; obtain ⟨hc3, hf3⟩ := HF.out w3 hgrow3; have HO3 := Lib.hid hown'; have HG3 := Lib.hid (And.intro hgrow3 hwhere); obtain ⟨va, vn, vc, rfl⟩ : ∃ a n c, v' = .slice a n c := (by rcases hown'.2 with ⟨e, _⟩ | ⟨g, cp, cu, e, _⟩ <;> exact ⟨_, _, _, e⟩); clear hown' hgrow3 hwhere HF)
      go_roundg (l.length - (i + 1))
      case measure => omega
      case rel =>
        refine ⟨i + 1, .slice va vn vc, by go_num, by omega, rfl, Lib.hid ?_⟩
        exact OutL.push HR.out hlt HB1.out HH.out HBW.out xs HOWN.out HEL.out HO3.out HG3.out.1 HG3.out.2
    · have hil : i = l.length := by omega
      subst hil
      obtain ⟨sa, scap, rfl, hfull⟩ := HR.out.row.repL
      have HF := Lib.hid hfull
      have q0 := HR.out.cells 0
      have q1 := HR.out.cells 1
      have q2 := HR.out.cells 2
      have q3 := HR.out.cells 3
      have q4 := HR.out.cells 4
      have q5 := HR.out.cells 5
      have r0 := HR.out.res 0
      have r1 := HR.out.res 1
      have r2 := HR.out.res 2
      have r3 := HR.out.res 3
      have r4 := HR.out.res 4
      have r5 := HR.out.res 5
      have rf := HR.out.rfrozen
      simp only [List.getElem?_toArray, List.getElem?_cons_zero, List.getElem?_cons_succ] at q0 q1 q2 q3 q4 q5 r0 r1 r2 r3 r4 r5
      clear hfull hi hlt
      go_wp2_with fail
      refine bodyPost_ret (v := .tuple #[.agg #[.int .i64 5, .int .i64 0, .string ByteArray.empty, .slice sa l.length scap, .slice none 0 0, .slice none 0 0], .bool true]) (by rw [results_cell_tmp rfl]; go_simp) rfl ?_
      have fin : ∀ wx, wr.grownBy wx (some w.heap.size) → (∃ v, Ending.returned (.tuple #[.agg #[.int .i64 5, .int .i64 0, .string ByteArray.empty, .slice sa l.length scap, .slice none 0 0, .slice none 0 0], .bool true]) = Ending.returned (.tuple #[v, .bool true]) ∧ RV.Here w.heap.size wx v (.mk 5 0 ByteArray.empty l [] []) ∧ Below w.heap.size w wx) := fun wx hgb => by
        refine ⟨_, rfl, fun wy hx => ?_, below_gb HR.out.below hgb HR.out.below.size (Nat.le_refl _)⟩
        have hR := HF.out wy fun kk hb hk => (hx kk (by omega) (Nat.lt_of_lt_of_le hk hgb.size)).trans (hgb.block kk hk (fun e => by injection e; omega))
        unfold RV.Rep
        exact ⟨sa, scap, none, 0, none, 0, rfl, by unfold I64; omega, by unfold I64; omega, by decide, by unfold reachN; omega, by simp, by simp, hR, trivial, by unfold RV.RepL; trivial⟩
      with_reducible refine fin _ ?_
      repeat' (with_reducible first | exact World.grownBy.refl _ _ | refine gb_alloc ?_ _ | refine gb_set ?_ _ _)
end Go.Proofs.YtjpcdbopioblaaaDoor
