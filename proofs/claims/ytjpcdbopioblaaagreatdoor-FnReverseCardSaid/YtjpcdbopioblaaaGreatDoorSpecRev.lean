/- The reference's reverse walked: spec.array, spec.alone, spec.Call at "reverse". -/
import Derived.Test.YtjpcdbopioblaaaGreatDoorVague
import Derived.Test.YtjpcdbopioblaaaGreatDoorCallRev
namespace Go.Proofs.YtjpcdbopioblaaaGreatDoor
open Go.RowKit

/-- It lies in blocks of the call's own and in memory that was there. -/
def RV.Kept (w w' : World) (v : Value) (y : RV) : Prop := ∀ wx, Below w.heap.size w wx → SameFrom w.heap.size w' wx → y.Rep wx v

set_option maxRecDepth 100000 in
theorem specArray_c (a : Option Addr) (n c : Nat) (w : World) :
    Calls Tryz.prog 30 #[.slice a n c] w fun e w' => e = .returned (.agg #[.int .i64 5, .int .i64 0, .string ByteArray.empty, .slice a n c, .slice none 0 0, .slice none 0 0]) ∧ Below w.heap.size w w' := by
  have HB := Lib.hid (fun o => (Below.refl w.heap.size w).alloc (Nat.le_refl _) o)
  go_enter Tryz.func30, Tryz.ntmps30
  go_wp2_with fail
  refine bodyPost_ret (v := .agg #[.int .i64 5, .int .i64 0, .string ByteArray.empty, .slice a n c, .slice none 0 0, .slice none 0 0]) (by rw [results_cell rfl]; go_simp; rfl) rfl ?_
  exact ⟨rfl, HB.out _⟩

/-- The row that reverse fills, beside the argument's box and the result's cells. -/
structure RevS (w0 w : World) (l : List RV) (A Z : Array Value) (k : Nat) (sl : Value) (wr : World) : Prop where
  row : RowW w0 (w.heap.size + 2) l.reverse k sl wr
  bw : Below w.heap.size w wr
  hw : w0.heap.size ≤ w.heap.size
  box : wr.heap[w.heap.size]? = some (.cells A 27 (0, 0))
  out : wr.heap[w.heap.size + 1]? = some (.cells Z 27 (0, 0))
  size : w.heap.size + 2 ≤ wr.heap.size
theorem RevS.start (w0 w : World) (h0 : Below w0.heap.size w0 w) (l : List RV) (A Z : Array Value) : RevS w0 w l A Z 0 (.slice none 0 0) ((w.alloc (.cells A 27)).alloc (.cells Z 27)) := by
  have e1 : (w.alloc (.cells A 27)).heap.size = w.heap.size + 1 := by simp
  have hz := h0.size
  refine ⟨RowW.nil ((h0.alloc hz _).alloc (by simp; omega) _) (by omega), ((Below.refl _ _).alloc (Nat.le_refl _) _).alloc (by simp) _, hz, (Below.heap_alloc _ _ _ (by omega)).trans (heap_alloc_new _ _), ?_, by simp⟩
  rw [← e1]
  exact heap_alloc_new _ _
theorem RevS.push {w0 w wr w' : World} {l : List RV} {A Z : Array Value} {k j : Nat} {sl sl' c0 c1 c2 c3 c4 c5 : Value} {xs : List Value} {o : Obj} (h : RevS w0 w l A Z k sl wr) (hk : k < l.length) (hj : l.length - 1 - k = j) (hown : wr.ownsRow (w.heap.size + 2) 27 6 sl k xs)
    (hx : ∀ (j : Nat) (_ : j < k) (h : j < l.reverse.length), ∃ c0 c1 c2 c3 c4 c5, (xs.drop (j * 6)).take 6 = [c0, c1, c2, c3, c4, c5] ∧ l.reverse[j].Rep w0 (.agg #[c0, c1, c2, c3, c4, c5]))
    (hr : (l[j]'(by omega)).Rep w0 (.agg #[c0, c1, c2, c3, c4, c5])) (hown' : w'.ownsRow (w.heap.size + 2) 27 6 sl' (k + 1) (xs ++ [c0, c1, c2, c3, c4, c5])) (hg : (wr.alloc o).grownBy w' sl.ownBlock) : RevS w0 w l A Z (k + 1) sl' w' := by
  have hsz := h.size
  have hsz2 := hg.size
  simp at hsz2
  have keep : ∀ g, g < w.heap.size + 2 → w'.heap[g]? = wr.heap[g]? := fun g hgl =>
    (hg.block g (by simp; omega) (fun e => by have := (hown.lt g e.symm).1; omega)).trans (Below.heap_alloc _ _ _ (by omega))
  have hww := h.hw
  have hb : Below w0.heap.size w0 w' := ⟨hg.os.trans h.row.below.os, hg.tape.trans h.row.below.tape, hg.output.trans h.row.below.output, by omega, fun g hgl => (keep g (by omega)).trans (h.row.below.block g hgl)⟩
  have hb2 : Below w.heap.size w w' := ⟨hg.os.trans h.bw.os, hg.tape.trans h.bw.tape, hg.output.trans h.bw.output, by omega, fun g hgl => (keep g (by omega)).trans (h.bw.block g hgl)⟩
  refine ⟨h.row.push (by simpa using hk) hown.1 hx ?_ hown' hb, hb2, hww, (keep _ (by omega)).trans h.box, (keep _ (by omega)).trans h.out, by omega⟩
  have e : l.reverse[k]'(by simpa using hk) = l[j]'(by omega) := by rw [List.getElem_reverse]; congr 1
  rw [e]
  exact hr
theorem RevS.done {w0 w wr : World} {l : List RV} {A Z : Array Value} {ra : Option Addr} {rc : Nat} (h : RevS w0 w l A Z l.length (.slice ra l.length rc) wr) : ∀ wx, Below w0.heap.size w0 wx → SameFrom (w.heap.size + 2) wr wx → RV.RepL wx ra 0 l.reverse := by
  have h1 := h.row
  rw [show l.length = l.reverse.length by simp] at h1
  obtain ⟨a, c, e, hh⟩ := h1.repL2
  injection e with e
  subst e
  exact hh
theorem RevS.res {w0 w wr : World} {l : List RV} {A Z : Array Value} {k : Nat} {sl : Value} (h : RevS w0 w l A Z k sl wr) : (∀ o, wr.cell? ⟨w.heap.size + 1, o, none⟩ = Z[o]?) ∧ ∀ o, wr.frozen? ⟨w.heap.size + 1, o, none⟩ = false :=
  ⟨fun o => by simp [World.cell?, h.out], fun o => by simp [World.frozen?, h.out]⟩

def nameRev : ByteArray := ⟨#[114, 101, 118, 101, 114, 115, 101]⟩
def RevSpec (w0 : World) (l : List RV) (w : World) (e : Ending) (w' : World) : Prop := ∃ a c, e = .returned (.tuple #[.agg #[.int .i64 5, .int .i64 0, .string ByteArray.empty, .slice a l.length c, .slice none 0 0, .slice none 0 0], .int .i64 0]) ∧ (∀ wx, Below w0.heap.size w0 wx → SameFrom w.heap.size w' wx → RV.RepL wx a 0 l.reverse) ∧ Below w.heap.size w w'

set_option maxRecDepth 100000 in
set_option maxHeartbeats 3200000 in
theorem arrayRev_any (l : List RV) (al ak av : Option Addr) (ac nk ck nv cv : Nat) (w0 w : World) (h0 : Below w0.heap.size w0 w) (hl : l.length ≤ 100000) (hr : RV.RepL w0 al 0 l) :
    Calls Tryz.prog 58 #[.string ⟨#[114, 101, 118, 101, 114, 115, 101]⟩, .agg #[.int .i64 5, .int .i64 0, .string ByteArray.empty, .slice al l.length ac, .slice ak nk ck, .slice av nv cv]] w (RevSpec w0 l w) := by
  have HR := Lib.hid hr
  clear hr
  unfold RevSpec
  go_enter Tryz.func58, Tryz.ntmps58
  go_wp2_with fail
  have H0 := Lib.hid (show RevS w0 w l #[.int .i64 5, .int .i64 0, .string ByteArray.empty, .slice al l.length ac, .slice ak nk ck, .slice av nv cv] #[.int .i64 0, .int .i64 0, .string ByteArray.empty, .slice none 0 0, .slice none 0 0, .slice none 0 0] 0 (.slice none 0 0) ((w.alloc (.cells #[.int .i64 5, .int .i64 0, .string ByteArray.empty, .slice al l.length ac, .slice ak nk ck, .slice av nv cv] 27)).alloc (.cells #[.int .i64 0, .int .i64 0, .string ByteArray.empty, .slice none 0 0, .slice none 0 0, .slice none 0 0] 27)) from RevS.start w0 w h0 l #[.int .i64 5, .int .i64 0, .string ByteArray.empty, .slice al l.length ac, .slice ak nk ck, .slice av nv cv] #[.int .i64 0, .int .i64 0, .string ByteArray.empty, .slice none 0 0, .slice none 0 0, .slice none 0 0])
  go_loopg [14, 15] (l.length) (fun gk s14 s15 wr => ∃ (k : Nat) (z : Int) (ra : Option Addr) (rc : Nat), s14 = .slice ra k rc ∧ s15 = .int .i64 z ∧ k ≤ l.length ∧ gk = l.length - k ∧ -1 ≤ z ∧ z < 100000 ∧ Hid (z = (l.length : Int) - 1 - k) ∧ Hid (RevS w0 w l #[.int .i64 5, .int .i64 0, .string ByteArray.empty, .slice al l.length ac, .slice ak nk ck, .slice av nv cv] #[.int .i64 0, .int .i64 0, .string ByteArray.empty, .slice none 0 0, .slice none 0 0, .slice none 0 0] k (.slice ra k rc) wr))
  case atStart => exact ⟨0, (l.length : Int) - 1, none, 0, rfl, by go_num, Nat.zero_le _, rfl, by omega, by omega, Lib.hid (by omega), H0⟩
  case round =>
    obtain ⟨k, z, ra, rc, rfl, rfl, hk, rfl, hz1, hz2, HZ, HS⟩ := hrel
    have q3 : wr.cell? ⟨w.heap.size, 3, none⟩ = some (.slice al l.length ac) := by simp [World.cell?, HS.out.box]
    by_cases hlt : k < l.length
    · obtain ⟨j, hj⟩ : ∃ j : Nat, z = (j : Int) := ⟨z.toNat, by have := HZ.out; omega⟩
      subst hj
      have hjl : j < l.length := by have := HZ.out; omega
      have hjk : l.length - 1 - k = j := by have := HZ.out; omega
      have HJK := Lib.hid hjk
      obtain ⟨ab, ao, x0, x1, x2, x3, x4, x5, rfl, g0', g1', g2', g3', g4', g5', hra⟩ := HR.out.get j hjl
      simp only [Nat.zero_add] at g0' g1' g2' g3' g4' g5'
      have hel := cell_lt g0'
      have g0 := (HS.out.row.below.cell (p := ⟨ab, _, none⟩) hel).trans g0'
      have g1 := (HS.out.row.below.cell (p := ⟨ab, _, none⟩) hel).trans g1'
      have g2 := (HS.out.row.below.cell (p := ⟨ab, _, none⟩) hel).trans g2'
      have g3 := (HS.out.row.below.cell (p := ⟨ab, _, none⟩) hel).trans g3'
      have g4 := (HS.out.row.below.cell (p := ⟨ab, _, none⟩) hel).trans g4'
      have g5 := (HS.out.row.below.cell (p := ⟨ab, _, none⟩) hel).trans g5'
      obtain ⟨ek, eh, et, eal, em, ecl, eak, emk, eck, eav, emv, ecv, rfl, rfl, rfl, rfl, rfl, rfl⟩ := hra.shape
      have HRA := Lib.hid hra
      have hj0 : (0 : Int) ≤ (j : Int) := by omega
      have hj1 : (j : Int) < (l.length : Int) := by omega
      obtain ⟨i0, hi0, hz0, hzs, hzb⟩ := info_parts Tryz.infoValue
      have HI := Lib.hid (And.intro hi0 (And.intro hz0 (And.intro hzs hzb)))
      obtain ⟨xs, hown, hxs⟩ := HS.out.row.row
      have HX := Lib.hid (And.intro hown hxs)
      have HROW : Hid ((wr.alloc (.cells #[.int .i64 ek, .int .i64 eh, .string et, .slice eal em ecl, .slice eak emk eck, .slice eav emv ecv] 27)).ownsRow (w.heap.size + 2) 27 6 (.slice ra k rc) k xs) := Lib.hid (ownsRow_same hown fun g e => Below.heap_alloc _ _ g (hown.lt g e).2)
      have HKL := Lib.hid (And.intro hl hlt)
      have HSZ := Lib.hid HS.out.size
      clear g0' g1' g2' g3' g4' g5' hra hk hz1 hz2 hi0 hz0 hzs hzb hown hxs hlt hjk hel
      go_wp2_with (at_builtin; refine wpList_append_where _ rfl _ _ 22 rfl (w.heap.size + 2) 27 i0 (.agg #[.int .i64 0, .int .i64 0, .string ByteArray.empty, .slice none 0 0, .slice none 0 0, .slice none 0 0]) 6 104 Tryz.underlying22 HI.out.1 HI.out.2.1 HI.out.2.2.1 HI.out.2.2.2 rfl (by decide) (.slice ra k rc) k xs rfl HROW.out ⟨wr.heap.size, 0, none⟩ 1 1 [.int .i64 ek, .int .i64 eh, .string et, .slice eal em ecl, .slice eak emk eck, .slice eav emv ecv] rfl rfl (World.news_of_block (heap_alloc_new _ _)) (fun x hx => by simp at hx; rcases hx with rfl | rfl | rfl | rfl | rfl | rfl <;> rfl) (by decide) (by have := HKL.out; unfold maxLen; omega) (by have := HKL.out; omega) (by have := HSZ.out; simp; omega) ?_; intro v' w3 hown' hgrow3 hwhere; have HO3 := Lib.hid hown'; have HG3 := Lib.hid hgrow3; obtain ⟨qa, qn, qc, rfl⟩ : ∃ a n c, v' = .slice a n c := (by rcases hown'.2 with ⟨e, _⟩ | ⟨g, cp, cu, e, _⟩ <;> exact ⟨_, _, _, e⟩); obtain rfl : qn = k + 1 := (by rcases hown'.2 with ⟨e, h0⟩ | ⟨g, cp, cu, e, _⟩; (injection e with _ e _; omega); (injection e)); clear hown' hgrow3 hwhere)
      go_roundg (l.length - (k + 1))
      case measure => have := HKL.out; omega
      case rel => exact ⟨k + 1, (j : Int) - 1, qa, qc, rfl, by go_num, HKL.out.2, rfl, by omega, by have := HKL.out; omega, Lib.hid (by have := HJK.out; have := HKL.out; omega), Lib.hid (HS.out.push HKL.out.2 HJK.out HX.out.1 HX.out.2 HRA.out HO3.out HG3.out)⟩
    · have hkl : k = l.length := by omega
      subst hkl
      have hzz : z = -1 := by have := HZ.out; omega
      subst hzz
      have HSR := Lib.hid HS.out.done
      obtain ⟨hc', hf'⟩ := HS.out.res
      clear q3 hk hlt hz1 hz2
      have HSZ := Lib.hid HS.out.size
      have HBW := Lib.hid HS.out.bw
      have hy : w.heap.size + 1 < wr.heap.size := by have := HSZ.out; omega
      have z0 := hc' 0
      have z1 := hc' 1
      have z2 := hc' 2
      have z3 := hc' 3
      have z4 := hc' 4
      have z5 := hc' 5
      simp only [List.getElem?_toArray, List.getElem?_cons_zero, List.getElem?_cons_succ] at z0 z1 z2 z3 z4 z5
      clear hc'
      go_wp2_with fail
      refine (specArray_c _ _ _ _).mono ?_
      rintro e w3 ⟨rfl, hb3⟩
      have HB3 := Lib.hid hb3
      obtain ⟨hc3', hf3'⟩ := bcell hb3
      have hc3 := fun o => hc3' (w.heap.size + 1) o hy
      have hf3 := fun o => hf3' (w.heap.size + 1) o hy
      clear hc3' hf3' hb3
      go_wp2_with fail
      refine bodyPost_ret (v := .tuple #[.agg #[.int .i64 5, .int .i64 0, .string ByteArray.empty, .slice ra l.length rc, .slice none 0 0, .slice none 0 0], .int .i64 0]) (by rw [results_cell_tmp rfl]; go_simp) rfl ?_
      have fin : ∀ wx, w3.grownBy wx (some (w.heap.size + 1)) → (∃ a c, Ending.returned (.tuple #[.agg #[.int .i64 5, .int .i64 0, .string ByteArray.empty, .slice ra l.length rc, .slice none 0 0, .slice none 0 0], .int .i64 0]) = Ending.returned (.tuple #[.agg #[.int .i64 5, .int .i64 0, .string ByteArray.empty, .slice a l.length c, .slice none 0 0, .slice none 0 0], .int .i64 0]) ∧ (∀ wy, Below w0.heap.size w0 wy → SameFrom w.heap.size wx wy → RV.RepL wy a 0 l.reverse) ∧ Below w.heap.size w wx) := fun wx hgb => by
        have hs := HSZ.out
        refine ⟨_, _, rfl, fun wy hbw hx => HSR.out wy hbw fun kk hb hk => ?_, below_gb (HBW.out.trans (HB3.out.mono HBW.out.size)) hgb (by have := HB3.out.size; omega) (Nat.le_succ _)⟩
        have hk3 : kk < w3.heap.size := Nat.lt_of_lt_of_le hk HB3.out.size
        exact (hx kk (by omega) (Nat.lt_of_lt_of_le hk3 hgb.size)).trans ((hgb.block kk hk3 (fun e => by injection e; omega)).trans (HB3.out.block kk hk))
      with_reducible refine fin _ ?_
      repeat' (with_reducible first | exact World.grownBy.refl _ _ | refine gb_alloc ?_ _ | refine gb_set ?_ _ _)

set_option maxRecDepth 100000 in
set_option maxHeartbeats 1600000 in
theorem aloneRev_any (l : List RV) (al ak av : Option Addr) (ac nk ck nv cv : Nat) (w0 w : World) (h0 : Below w0.heap.size w0 w) (hl : l.length ≤ 100000) (hr : RV.RepL w0 al 0 l) :
    Calls Tryz.prog 31 #[.string ⟨#[114, 101, 118, 101, 114, 115, 101]⟩, .agg #[.int .i64 5, .int .i64 0, .string ByteArray.empty, .slice al l.length ac, .slice ak nk ck, .slice av nv cv]] w (RevSpec w0 l w) := by
  have HC := Lib.hid (fun wx (hb : Below w.heap.size w wx) => arrayRev_any l al ak av ac nk ck nv cv w0 wx (h0.trans (hb.mono h0.size)) hl hr)
  have HB := Lib.hid (fun o o' => ((Below.refl w.heap.size w).alloc (Nat.le_refl _) o).alloc (by simp) o')
  clear hr hl h0
  unfold RevSpec
  go_enter Tryz.func31, Tryz.ntmps31
  go_wp2_with fail
  refine (HC.out _ (HB.out _ _)).mono ?_
  rintro e w3 ⟨ra, rc, rfl, hh, hb3⟩
  have HH := Lib.hid hh
  have HB0 := Lib.hid (HB.out (.cells #[.int .i64 5, .int .i64 0, .string ByteArray.empty, .slice al l.length ac, .slice ak nk ck, .slice av nv cv] 27) (.cells #[.int .i64 0, .int .i64 0, .string ByteArray.empty, .slice none 0 0, .slice none 0 0, .slice none 0 0] 27))
  have HB3 := Lib.hid (HB0.out.trans (hb3.mono (by simp; omega)))
  obtain ⟨hc3', hf3'⟩ := bcell hb3
  have hz3 := hb3.size
  simp at hz3
  have hy3 : w.heap.size + 1 < w3.heap.size := by omega
  have hc3 := fun o => hc3' (w.heap.size + 1) o (by simp)
  have hf3 := fun o => hf3' (w.heap.size + 1) o (by simp)
  clear hc3' hf3' hb3 hh
  go_wp2_with fail
  refine bodyPost_ret (v := .tuple #[.agg #[.int .i64 5, .int .i64 0, .string ByteArray.empty, .slice ra l.length rc, .slice none 0 0, .slice none 0 0], .int .i64 0]) (by rw [results_cell_tmp rfl]; go_simp) rfl ?_
  have fin : ∀ wx, w3.grownBy wx (some (w.heap.size + 1)) → (∃ a c, Ending.returned (.tuple #[.agg #[.int .i64 5, .int .i64 0, .string ByteArray.empty, .slice ra l.length rc, .slice none 0 0, .slice none 0 0], .int .i64 0]) = Ending.returned (.tuple #[.agg #[.int .i64 5, .int .i64 0, .string ByteArray.empty, .slice a l.length c, .slice none 0 0, .slice none 0 0], .int .i64 0]) ∧ (∀ wy, Below w0.heap.size w0 wy → SameFrom w.heap.size wx wy → RV.RepL wy a 0 l.reverse) ∧ Below w.heap.size w wx) := fun wx hgb => by
    refine ⟨_, _, rfl, fun wy hbw hx => HH.out wy hbw fun kk hb hk => ?_, below_gb HB3.out hgb HB3.out.size (Nat.le_succ _)⟩
    have hb' : w.heap.size + 2 ≤ kk := by simpa using hb
    exact (hx kk (by omega) (Nat.lt_of_lt_of_le hk hgb.size)).trans (hgb.block kk hk (fun e => by injection e; omega))
  with_reducible refine fin _ ?_
  repeat' (with_reducible first | exact World.grownBy.refl _ _ | refine gb_alloc ?_ _ | refine gb_set ?_ _ _)

set_option maxRecDepth 100000 in
set_option maxHeartbeats 1600000 in
theorem callRev_any (l : List RV) (al : Option Addr) (ac : Nat) (w : World) (hl : l.length ≤ 100000) (hg : RV.GoodL l) (hr : RV.RepL w al 0 l) :
    Calls Tryz.prog 9 #[.string ⟨#[114, 101, 118, 101, 114, 115, 101]⟩, .agg #[.int .i64 5, .int .i64 0, .string ByteArray.empty, .slice al l.length ac, .slice none 0 0, .slice none 0 0], .slice none 0 0] w (RevSpec w l w) := by
  have HC := Lib.hid (fun wx (hb : Below w.heap.size w wx) => aloneRev_any l al none none ac 0 0 0 0 w wx hb hl hr)
  have HB := Lib.hid (fun o o' => ((Below.refl w.heap.size w).alloc (Nat.le_refl _) o).alloc (by simp) o')
  have HV := Lib.hid (fun wx (hb : Below w.heap.size w wx) => vague_all (arrT l).nodes (arrT l) (.agg #[.int .i64 5, .int .i64 0, .string ByteArray.empty, .slice al l.length ac, .slice none 0 0, .slice none 0 0]) wx (Nat.le_refl _) (arrT_good hg) (arrT_rep (by unfold reachN; omega) (RV.RepL.below hb hr)))
  have HV0 := Lib.hid (fun wx => vague_all (arrT []).nodes (arrT []) (.agg #[.int .i64 5, .int .i64 0, .string ByteArray.empty, .slice none 0 0, .slice none 0 0, .slice none 0 0]) wx (Nat.le_refl _) (arrT_good (by unfold RV.GoodL; trivial)) (arrT_rep (l := []) (by simp) (by unfold RV.RepL; trivial)))
  have HA := Lib.hid (fun (a : Option Addr) (n c : Nat) (wx : World) => specArray_c a n c wx)
  clear hr hl hg
  unfold RevSpec
  go_enter Tryz.func9, Tryz.ntmps9
  go_wp2_with fail
  refine (HV.out _ (HB.out _ _)).mono ?_
  rintro e w1 ⟨rfl, hb1⟩
  have HB0 := Lib.hid (HB.out (.cells #[.int .i64 5, .int .i64 0, .string ByteArray.empty, .slice al l.length ac, .slice none 0 0, .slice none 0 0] 27) (.cells #[.int .i64 0, .int .i64 0, .string ByteArray.empty, .slice none 0 0, .slice none 0 0, .slice none 0 0] 27))
  have HB1 := Lib.hid (HB0.out.trans (hb1.mono (by simp; omega)))
  obtain ⟨hc1', hf1'⟩ := bcell hb1
  have hz1 := hb1.size
  simp at hz1
  have hy0 : w.heap.size < w1.heap.size := by omega
  have hy1 : w.heap.size + 1 < w1.heap.size := by omega
  have hd1 := fun o => hc1' w.heap.size o (by simp; omega)
  have hc1 := fun o => hc1' (w.heap.size + 1) o (by simp)
  have hf1 := fun o => hf1' (w.heap.size + 1) o (by simp)
  clear hc1' hf1' hb1 hz1
  go_wp2_with fail
  refine (HA.out _ _ _ _).mono ?_
  rintro e w2 ⟨rfl, hb2⟩
  have HB2 := Lib.hid (HB1.out.trans (hb2.mono HB1.out.size))
  obtain ⟨hc2', hf2'⟩ := bcell hb2
  have hd2 := fun o => hc2' w.heap.size o hy0
  have hc2 := fun o => hc2' (w.heap.size + 1) o hy1
  have hf2 := fun o => hf2' (w.heap.size + 1) o hy1
  have hyy0 : w.heap.size < w2.heap.size := Nat.lt_of_lt_of_le hy0 hb2.size
  have hyy1 : w.heap.size + 1 < w2.heap.size := Nat.lt_of_lt_of_le hy1 hb2.size
  clear hc2' hf2' hb2
  go_wp2_with fail
  refine (HV0.out _).mono ?_
  rintro e w3 ⟨rfl, hb3⟩
  have HB3 := Lib.hid (HB2.out.trans (hb3.mono HB2.out.size))
  obtain ⟨hc3', hf3'⟩ := bcell hb3
  have hd3 := fun o => hc3' w.heap.size o hyy0
  have hc3 := fun o => hc3' (w.heap.size + 1) o hyy1
  have hf3 := fun o => hf3' (w.heap.size + 1) o hyy1
  have hz0 : w.heap.size < w3.heap.size := Nat.lt_of_lt_of_le hyy0 hb3.size
  have hz1 : w.heap.size + 1 < w3.heap.size := Nat.lt_of_lt_of_le hyy1 hb3.size
  clear hc3' hf3' hb3
  go_wp2_with fail
  refine (HC.out _ HB3.out).mono ?_
  rintro e w4 ⟨ra, rc, rfl, hh, hb4⟩
  have HH := Lib.hid hh
  have HSZ := Lib.hid hz1
  have HB4 := Lib.hid (HB3.out.trans (hb4.mono HB3.out.size))
  obtain ⟨hc4', hf4'⟩ := bcell hb4
  have hc4 := fun o => hc4' (w.heap.size + 1) o hz1
  have hf4 := fun o => hf4' (w.heap.size + 1) o hz1
  clear hc4' hf4' hb4 hh
  go_wp2_with fail
  refine bodyPost_ret (v := .tuple #[.agg #[.int .i64 5, .int .i64 0, .string ByteArray.empty, .slice ra l.length rc, .slice none 0 0, .slice none 0 0], .int .i64 0]) (by rw [results_cell_tmp rfl]; go_simp) rfl ?_
  have fin : ∀ wx, w4.grownBy wx (some (w.heap.size + 1)) → (∃ a c, Ending.returned (.tuple #[.agg #[.int .i64 5, .int .i64 0, .string ByteArray.empty, .slice ra l.length rc, .slice none 0 0, .slice none 0 0], .int .i64 0]) = Ending.returned (.tuple #[.agg #[.int .i64 5, .int .i64 0, .string ByteArray.empty, .slice a l.length c, .slice none 0 0, .slice none 0 0], .int .i64 0]) ∧ (∀ wy, Below w.heap.size w wy → SameFrom w.heap.size wx wy → RV.RepL wy a 0 l.reverse) ∧ Below w.heap.size w wx) := fun wx hgb => by
    have h1 := HSZ.out
    refine ⟨_, _, rfl, fun wy hbw hx => HH.out wy hbw fun kk hb hk => ?_, below_gb HB4.out hgb HB4.out.size (Nat.le_succ _)⟩
    exact (hx kk (by omega) (Nat.lt_of_lt_of_le hk hgb.size)).trans (hgb.block kk hk (fun e => by injection e; omega))
  with_reducible refine fin _ ?_
  repeat' (with_reducible first | exact World.grownBy.refl _ _ | refine gb_alloc ?_ _ | refine gb_set ?_ _ _)
end Go.Proofs.YtjpcdbopioblaaaGreatDoor
