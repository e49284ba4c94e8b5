/- 'up' of a decimal walked. -/
import Derived.Test.YtjpcdbopioblaaaDecDown
import Derived.Test.YtjpcdbopioblaaaDecUpP
namespace Go.Proofs.Ytjpcdbopioblaaa
open Go.RowKit

/-- A decimal whose digits lie in a row that may be written. -/
def DecF (W : World) (D g c : Nat) (ds : List Nat) (dp : Int) : Prop := W.heap[D]? = some (.cells #[.slice (some ⟨g, 0, none⟩) ds.length c, .int .i64 dp] 62 (0, 0)) ∧ ds.length ≤ c ∧
  ∃ cur : Array Value, W.heap[g]? = some (.cells cur 5 (0, 0)) ∧ ds.length ≤ cur.size ∧ ∀ j (h : j < ds.length), cur[j]? = some (.int .u8 (ds[j] : Nat))
theorem DecF.ne {W : World} {D g c : Nat} {ds : List Nat} {dp : Int} (h : DecF W D g c ds dp) : g ≠ D := by
  obtain ⟨h1, _, cur, h2, _⟩ := h
  rintro rfl
  rw [h1] at h2
  injection h2 with h2
  injection h2 with _ h2
  exact absurd h2 (by decide)
theorem DecF.at {W : World} {D g c : Nat} {ds : List Nat} {dp : Int} (h : DecF W D g c ds dp) : DecAt W D ds dp := by
  obtain ⟨h1, h2, cur, h3, h4, h5⟩ := h
  exact ⟨_, h1, _, c, rfl, h2, fun j hj => ⟨g, rfl, by simp [World.cell?, h3, h5 j hj]⟩⟩
/-- The last digit raised. -/
theorem DecF.inc {W : World} {D g c i x : Nat} {pre : List Nat} {dp : Int} (h : DecF W D g c (pre ++ [x]) dp) (hi : i = pre.length) (y : Nat) : DecF (W.setCell ⟨g, i, none⟩ (.int .u8 (y : Nat))) D g c (pre ++ [y]) dp := by
  subst hi
  have hne := h.ne
  obtain ⟨h1, h2, cur, h3, h4, h5⟩ := h
  refine ⟨?_, by simpa using h2, cur.setIfInBounds pre.length (.int .u8 (y : Nat)), by simpa using Lib.heap_setCell_same h3 (i := pre.length) (.int .u8 (y : Nat)), by simpa using h4, fun j hj => ?_⟩
  · rw [heap_setCell_other _ _ _ _ (by exact fun e => hne e.symm)]
    simpa using h1
  · simp at h4 hj
    by_cases hj2 : j = pre.length
    · subst hj2
      simp [Array.getElem?_setIfInBounds]
      omega
    · have h6 := h5 j (by simp; omega)
      rw [Array.getElem?_setIfInBounds_ne (by omega), h6]
      rw [List.getElem_append_left (by omega), List.getElem_append_left (by omega)]
theorem row_open {W : World} {E n c : Nat} {a : Option Addr} {ds : List Nat} (ho : W.ownsRow E 5 1 (.slice a n c) n (dgCells ds)) (hn : n = ds.length) (hpos : 0 < n) :
    ∃ g cur, a = some ⟨g, 0, none⟩ ∧ n ≤ c ∧ E ≤ g ∧ W.heap[g]? = some (.cells cur 5 (0, 0)) ∧ ds.length ≤ cur.size ∧ ∀ j (h : j < ds.length), cur[j]? = some (.int .u8 (ds[j] : Nat)) := by
  subst hn
  obtain ⟨hl, ⟨_, h0⟩ | ⟨g, cap, cur, hv, hb, hg, hc, hcs, hsz, htk⟩⟩ := ho
  · omega
  · injection hv with e1 e2 e3
    subst e1 e3
    refine ⟨g, cur, rfl, hc, hb, hg, by omega, fun j hj => ?_⟩
    have h1 : (cur.toList.take (ds.length * 1))[j]? = some (.int .u8 (ds[j] : Nat)) := by
      rw [htk]; simp [dgCells, List.getElem?_eq_getElem hj]
    rw [List.getElem?_take_of_lt (by omega)] at h1
    simpa using h1
theorem decF_new {w W : World} {E n c : Nat} {a : Option Addr} {ds : List Nat} {dp : Int} (ho : W.ownsRow E 5 1 (.slice a n c) n (dgCells ds)) (hn : n = ds.length) (hpos : 0 < n) (hE : w.heap.size ≤ E) : ∃ g, a = some ⟨g, 0, none⟩ ∧ w.heap.size ≤ g ∧ DecF (W.alloc (.cells #[.slice a n c, .int .i64 dp] 62)) W.heap.size g c ds dp := by
  obtain ⟨g, cur, rfl, hc, hE2, hg, h1, h2⟩ := row_open ho hn hpos
  subst hn
  exact ⟨g, rfl, Nat.le_trans hE hE2, heap_alloc_new W _, hc, cur, (heap_alloc_old W _ (lt_of_block' hg)).trans hg, h1, h2⟩
theorem decF_build {w W : World} {D E n c : Nat} {a : Option Addr} {ds : List Nat} {dp : Int} {x y : Value} (hd : W.heap[D]? = some (.cells #[x, y] 62 (0, 0))) (ho : W.ownsRow E 5 1 (.slice a n c) n (dgCells ds)) (hn : n = ds.length) (hpos : 0 < n) (hE : w.heap.size ≤ E) : ∃ g, a = some ⟨g, 0, none⟩ ∧ w.heap.size ≤ g ∧ DecF ((W.setCell ⟨D, 0, none⟩ (.slice a n c)).setCell ⟨D, 1, none⟩ (.int .i64 dp)) D g c ds dp := by
  obtain ⟨g, cur, rfl, hc, hE2, hg, h1, h2⟩ := row_open ho hn hpos
  subst hn
  have hne : g ≠ D := by
    rintro rfl
    rw [hd] at hg
    injection hg with hg
    injection hg with _ hg
    exact absurd hg (by decide)
  have hb1 := Lib.heap_setCell_same hd (i := 0) (.slice (some ⟨g, 0, none⟩) ds.length c)
  have hb2 := Lib.heap_setCell_same hb1 (i := 1) (.int .i64 dp)
  exact ⟨g, rfl, Nat.le_trans hE hE2, by simpa using hb2, hc, cur, by rw [heap_setCell_other _ _ _ _ hne, heap_setCell_other _ _ _ _ hne]; exact hg, h1, h2⟩
theorem DecF.open {W : World} {D g c i x : Nat} {pre : List Nat} {dp : Int} (h : DecF W D g c (pre ++ [x]) dp) (hi : pre.length = i) : W.cell? ⟨D, 0, none⟩ = some (.slice (some ⟨g, 0, none⟩) (i + 1) c) ∧ W.cell? ⟨g, i, none⟩ = some (.int .u8 (x : Nat)) ∧ W.frozen? ⟨g, i, none⟩ = false := by
  subst hi
  obtain ⟨h1, h2, cur, h3, h4, h5⟩ := h
  refine ⟨by simp [World.cell?, h1], ?_, by simp [World.frozen?, h3]⟩
  have := h5 pre.length (by simp)
  simpa [World.cell?, h3] using this
def UpMid (w : World) (D : Nat) (a : Option Addr) (c : Nat) (l : List Nat) (dp : Int) (W1 : World) : Prop := ∃ g, a = some ⟨g, 0, none⟩ ∧ w.heap.size ≤ g ∧ DecF W1 D g c l dp ∧ Below w.heap.size w W1
theorem mid_new {w W : World} {E n c : Nat} {a : Option Addr} {ds : List Nat} {dp : Int} (ho : W.ownsRow E 5 1 (.slice a n c) n (dgCells ds)) (hn : n = ds.length) (hpos : 0 < n) (hE : w.heap.size ≤ E) (hb : Below w.heap.size w W) : UpMid w W.heap.size a c ds dp (W.alloc (.cells #[.slice a n c, .int .i64 dp] 62)) := by
  obtain ⟨g, h1, h2, h3⟩ := decF_new (w := w) (dp := dp) ho hn hpos hE
  exact ⟨g, h1, h2, h3, below_new hb⟩
theorem mid_build {w W : World} {D E n c : Nat} {a : Option Addr} {ds : List Nat} {dp : Int} {x y : Value} (hd : W.heap[D]? = some (.cells #[x, y] 62 (0, 0))) (ho : W.ownsRow E 5 1 (.slice a n c) n (dgCells ds)) (hn : n = ds.length) (hpos : 0 < n) (hE : w.heap.size ≤ E) (hb : Below w.heap.size w W) (hD : w.heap.size ≤ D) : UpMid w D a c ds dp ((W.setCell ⟨D, 0, none⟩ (.slice a n c)).setCell ⟨D, 1, none⟩ (.int .i64 dp)) := by
  obtain ⟨g, h1, h2, h3⟩ := decF_build (w := w) (dp := dp) hd ho hn hpos hE
  exact ⟨g, h1, h2, h3, below_set2 hb hD⟩
theorem UpMid.drew {w : World} {D : Nat} {a : Option Addr} {c : Nat} {l : List Nat} {dp : Int} {W1 : World} (h : UpMid w D a c l dp W1) : UpMid w D a c l dp W1.drew := by
  obtain ⟨g, h1, h2, h3, h4⟩ := h
  exact ⟨g, h1, h2, h3, h4.drew⟩
/-- What 'up' gives. -/
def UpPost (ds : List Nat) (dp n : Nat) (w : World) (e : Ending) (w' : World) : Prop := ∃ D U, ∃ dpu : Nat, e = .returned (.pointer (some ⟨D, 0, none⟩)) ∧ DecAt w' D U dpu ∧ Below w.heap.size w w' ∧ Digs U ∧ U ≠ [] ∧ U.length ≤ n + 1 ∧ dpu ≤ dp + 1 ∧ DVal U dpu ((numP ds n + 1) * 10 ^ (dp - n)) 1
theorem up_fin {w W : World} {D g c i n dp : Nat} {ds : List Nat} (h : DecF W D g c (ds.take i ++ [ds.getD i 0]) dp) (hb : Below w.heap.size w W) (hg : w.heap.size ≤ g) (hd : Digs ds) (hn : n < ds.length) (hnd : n ≤ dp) (hi : i < n) (h9 : ds.getD i 0 < 9) (hall : ∀ j, i + 1 ≤ j → j < n → ds.getD j 0 = 9) (x : Int) (hx : x = ((ds.getD i 0 + 1 : Nat) : Int)) :
    UpPost ds dp n w (.returned (.pointer (some ⟨D, 0, none⟩))) (W.setCell ⟨g, i, none⟩ (.int .u8 x)) := by
  subst hx
  have hl : (ds.take i).length = i := by rw [List.length_take]; omega
  refine ⟨D, ds.take i ++ [ds.getD i 0 + 1], dp, rfl, (h.inc hl.symm (ds.getD i 0 + 1)).at, hb.setCell (p := ⟨g, i, none⟩) hg _, ?_, by simp, by simp; omega, by omega, up_one hn hnd hi hall⟩
  intro d hdd
  rcases List.mem_append.1 hdd with hdd | hdd
  · exact hd d (List.mem_of_mem_take hdd)
  · have := List.mem_singleton.1 hdd; omega
theorem all_fin {w : World} {n dp : Nat} {ds : List Nat} (hnd : n ≤ dp) (h9 : ∀ j, j < n → ds.getD j 0 = 9) {x : Int} (hx : x = ((dp + 1 : Nat) : Int)) : UpPost ds dp n w (.returned (.pointer (some ⟨w.heap.size + 1, 0, none⟩))) ((w.alloc (.cells #[.int .u8 1] 5)).alloc (.cells #[.slice (some ⟨w.heap.size, 0, none⟩) 1 1, .int .i64 x] 62)) := by
  subst hx
  refine ⟨w.heap.size + 1, [1], dp + 1, rfl, ⟨_, heap2_1 w _ _, _, 1, rfl, Nat.le_refl _, fun j hj => ⟨w.heap.size, rfl, ?_⟩⟩, ((Below.refl _ w).alloc (Nat.le_refl _) _).alloc (by simp) _, fun d hd => by simp at hd; omega, by simp, by simp, Nat.le_refl _, up_all hnd h9⟩
  have : j = 0 := by simp at hj; exact hj
  subst this
  have h := heap2_0 w (.cells #[.int .u8 1] 5) (.cells #[.slice (some ⟨w.heap.size, 0, none⟩) 1 1, .int .i64 ((dp + 1 : Nat) : Int)] 62)
  simp only [World.cell?, h]
  rfl
theorem world_named {K : Act → World → Prop} {Q : Exit → Act → World → Prop} {e : Exit} {a : Act} {W : World} (P : World → Prop) (hP : P W) (h : ∀ W1, P W1 → Exit.then K Q e a W1) : Exit.then K Q e a W := h W hP
theorem take_snoc {ds : List Nat} {i : Nat} (h : i < ds.length) : ds.take (i + 1) = ds.take i ++ [ds.getD i 0] := by
  rw [List.take_succ_eq_append_getElem h, List.getD_eq_getElem?_getD, List.getElem?_eq_getElem h]; rfl

set_option maxRecDepth 100000 in
set_option maxHeartbeats 3200000 in
theorem up_any (b : Nat) (ds : List Nat) (dp n : Nat) (w : World) (h : DecAt w b ds dp) (hd : Digs ds) (hn : n < ds.length) (hnd : n ≤ dp) (hl : ds.length ≤ 1000) (hdp : dp ≤ 1000) :
    Calls Try.prog 31 #[.pointer (some ⟨b, 0, none⟩), .int .i64 n] w (UpPost ds dp n w) := by
  have H := Lib.hid h
  have HDG := Lib.hid hd
  obtain ⟨a, c, c0, c1, hcell⟩ := h.open
  have hcap := h.cap c0
  obtain ⟨g, rfl, hg0⟩ := hcell 0 (by omega)
  have HC : Hid (∀ j (hj : j < ds.length), w.cell? ⟨g, j, none⟩ = some (.int .u8 (ds[j] : Nat))) := Lib.hid (fun j hj => by
    obtain ⟨g', hg', hc⟩ := hcell j hj
    injection hg' with hg'
    injection hg' with hg'
    subst hg'
    exact hc)
  clear h hd hcell hg0
  have hj : (n : Int) < (ds.length : Int) := by omega
  have k0 := World.new_ne w _ c0
  have k1 := World.new_ne w _ c1
  go_enter Try.func31, Try.ntmps31
  go_wp2_with fail
  go_loopg [5] n (fun gk s5 wr => w = wr ∧ Hid (∀ j, gk ≤ j → j < n → ds.getD j 0 = 9) ∧ gk ≤ n ∧ ((∃ i : Nat, s5 = .int .i64 i ∧ gk = i + 1) ∨ (s5 = .int .i64 (-1) ∧ gk = 0)))
  case atStart =>
    refine ⟨rfl, Lib.hid (fun j h1 h2 => by omega), Nat.le_refl _, ?_⟩
    cases n with
    | zero => exact .inr ⟨rfl, rfl⟩
    | succ n => exact .inl ⟨n, by simp, rfl⟩
  case round =>
    obtain ⟨rfl, H9, hgn, ⟨i, rfl, rfl⟩ | ⟨rfl, rfl⟩⟩ := hrel
    · have hil : i < ds.length := by omega
      have hj0 : (i : Int) < (ds.length : Int) := by omega
      have hcx := HC.out i hil
      have hgi : ds.getD i 0 = ds[i] := by rw [List.getD_eq_getElem?_getD, List.getElem?_eq_getElem hil]; rfl
      have HGI := Lib.hid hgi
      clear hgi
      by_cases h9 : ds[i] < 9
      · have h9' : (ds[i] : Int) < 9 := by omega
        have HX9 := Lib.hid h9
        have hj1 : (i : Int) + 1 ≤ (c : Int) := by omega
        have hbl' : b < w.heap.size := H.out.lt
        have kb0 : ¬ b = w.heap.size := by omega
        have kb1 : ¬ b = w.heap.size + 1 := by omega
        have kb2 : ¬ w.heap.size = b := by omega
        have kb3 : ¬ w.heap.size + 1 = b := by omega
        have hnt : Hid (i + 1 = (ds.take (i + 1)).length) := Lib.hid (by simp; omega)
        have hnl : (ds.take (i + 1)).length ≤ 100000 := by simp; omega
        go_wp2_with fail
        have hj3 : (0 : Int) ≤ (i : Int) + 1 := by omega
        have hj4 : ((i : Int) + 1).toNat = i + 1 := by omega
        have hj2 : IntKind.i64.wrap ((i : Int) + 1) = (i : Int) + 1 := IntWalk.i64_in _ (by omega)
        go_region_held3 (fun W : World => W.cell? ⟨b, 0, none⟩ = some (.slice (some ⟨g, 0, none⟩) ds.length c) ∧ W.cell? ⟨b, 1, none⟩ = some (.int .i64 dp)) (go_keep) ((refine step_app0 (by rfl) _ _ (by rfl) _ g (i + 1) c (ds.take (i + 1)) (by rfl) (by rfl) (by simp only [hp_drew, hp_alloc, Array.getElem?_push, Array.size_push]; simp) hnt.out (take_cells (i + 1) HC.out (by repeat (first | exact Below.refl _ _ | refine Below.drew ?_ | refine Below.alloc ?_ (by simp <;> omega) _))) hnl ?_; intro a' c' w' ho hg; have HR := Lib.hid ho; have HO := Lib.hid (World.ownsRowF_of ho); have hB := (show Below w.heap.size w _ from by repeat (first | exact Below.refl _ _ | refine Below.drew ?_ | refine Below.alloc ?_ (by simp <;> omega) _)).grown hg (by simp <;> omega) (fun k hk => by simp at hk; omega); have e0 := (cell_of_below (j := 0) hB hbl').trans c0; have e1 := (cell_of_below (j := 1) hB hbl').trans c1; have HB := Lib.hid hB; (first | (refine far_bind (x := .slice none 0 0) (y := .int .i64 0) (D := w.heap.size) hg ?_ ?_ ?_; (focus (first | exact heap2_0 _ _ _ | exact heap2_1 _ _ _)); (focus (first | exact heap2_0 _ _ _ | exact heap2_1 _ _ _)); intro hD d0 d1 d2 d3; have HD := Lib.hid hD; clear hD) | (refine far_bind (x := .slice none 0 0) (y := .int .i64 0) (D := w.heap.size + 1) hg ?_ ?_ ?_; (focus (first | exact heap2_0 _ _ _ | exact heap2_1 _ _ _)); (focus (first | exact heap2_0 _ _ _ | exact heap2_1 _ _ _)); intro hD d0 d1 d2 d3; have HD := Lib.hid hD; clear hD) | skip); clear ho hg hB))
        all_goals (
          clear hj2 hj3 hj4 k0 k1 kb0 kb1 kb2 kb3 e0 e1 hcx c0 c1
          refine world_named (UpMid w _ a' c' (ds.take (i + 1)) (dp : Int)) (by first | exact mid_new HR.out hnt.out (by omega) (by omega) HB.out | exact (mid_new HR.out hnt.out (by omega) (by omega) HB.out).drew | exact mid_build HD.out HR.out hnt.out (by omega) (by omega) HB.out (by omega) | exact (mid_build HD.out HR.out hnt.out (by omega) (by omega) HB.out (by omega)).drew) ?_
          rintro W1 ⟨g', rfl, hgw, hF, hB1⟩
          rw [take_snoc hil] at hF
          obtain ⟨m0, m1, m2⟩ := hF.open (show (ds.take i).length = i by rw [List.length_take]; omega)
          have h9x : ds.getD i 0 < 9 := by rw [HGI.out]; exact HX9.out
          have HF := Lib.hid (up_fin hF hB1 hgw HDG.out hn hnd (by omega) h9x H9.out)
          clear hF hB1 hgw hnt hnl HR HO HB
          clear h9 h9'
          generalize ds.getD i 0 = x at *
          go_wp2_with fail
          go_ret
          exact HF.out _ (by omega))
      · have hd9 : ds[i] = 9 := by have := HDG.out _ (List.getElem_mem hil); omega
        have HN : Hid (∀ j, i ≤ j → j < n → ds.getD j 0 = 9) := Lib.hid (fun j h1 h2 => by
          by_cases hji : j = i
          · subst hji; rw [HGI.out]; exact hd9
          · exact H9.out j (by omega) h2)
        rw [hd9] at hcx
        clear hd9 h9
        go_wp2_with fail
        go_roundg i
        case measure => omega
        case rel =>
          refine ⟨rfl, HN, by omega, ?_⟩
          cases i with
          | zero => exact .inr ⟨rfl, rfl⟩
          | succ i => exact .inl ⟨i, by simp, rfl⟩
    · have HN : Hid (∀ j, j < n → ds.getD j 0 = 9) := Lib.hid (fun j h => H9.out j (Nat.zero_le _) h)
      have hlt := H.out.lt
      have c1a : ∀ o, (w.alloc o).cell? ⟨b, 1, none⟩ = some (.int .i64 dp) := fun o => (((Below.refl _ w).alloc (Nat.le_refl _) o).cell (p := ⟨b, 1, none⟩) hlt).trans c1
      go_wp2_with fail
      go_ret
      exact all_fin hnd HN.out (by omega)
end Go.Proofs.Ytjpcdbopioblaaa
