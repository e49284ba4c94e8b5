/- reverse of a list walked: gojq.funcReverse, impl.Reverse. -/
import Derived.Test.YtjpcdbopioblaaaGreatDoorLawFits
namespace Go.Proofs.YtjpcdbopioblaaaGreatDoor
open Go.RowKit

/-- The list that is being made, from its end: block O; its last i places are filled. -/
structure MadeR (w : World) (base O : Nat) (l : List RV) (i : Nat) (wx : World) : Prop where
  row : ∃ cs : Array Value, wx.heap[O]? = some (.cells cs 20 (0, 0)) ∧ cs.size = l.length ∧ ∀ (j : Nat) (_ : j < i) (h : j < l.length), ∃ x, cs[l.length - 1 - j]? = some x ∧ l[j].Go w base x
  below : Below O w wx
theorem MadeR.lt {w wx : World} {base O i : Nat} {l : List RV} (h : MadeR w base O l i wx) : O < wx.heap.size := by obtain ⟨cs, h1, _⟩ := h.row; exact lt_of_block h1
theorem MadeR.cell {w wx : World} {base O i : Nat} {l : List RV} (h : MadeR w base O l i wx) (j : Nat) (hj : j < l.length) : ∃ u, wx.cell? ⟨O, j, none⟩ = some u := by
  obtain ⟨cs, h1, h2, _⟩ := h.row
  exact ⟨cs[j]'(by omega), by simp [World.cell?, h1, show j < cs.size from by omega]⟩
theorem MadeR.fr {w wx : World} {base O i : Nat} {l : List RV} (h : MadeR w base O l i wx) (j : Nat) : wx.frozen? ⟨O, j, none⟩ = false := by
  obtain ⟨cs, h1, h2, _⟩ := h.row
  simp [World.frozen?, h1]
theorem MadeR.store {w wx : World} {base O i : Nat} {l : List RV} (h : MadeR w base O l i wx) (hi : i < l.length) (x : Value) (hx : l[i].Go w base x) : MadeR w base O l (i + 1) (wx.setCell ⟨O, l.length - 1 - i, none⟩ x) := by
  have hlt := h.lt
  obtain ⟨cs, h1, h2, h3⟩ := h.row
  have hg : wx.grownBy (wx.setCell ⟨O, l.length - 1 - i, none⟩ x) (some O) := gb_set (World.grownBy.refl wx _) _ x
  refine ⟨⟨cs.setIfInBounds (l.length - 1 - i) x, ?_, by simpa using h2, fun j hj hl => ?_⟩, below_gb h.below hg (by omega) (Nat.le_refl _)⟩
  · have h' : wx.heap[O] = .cells cs 20 (0, 0) := by simpa [Array.getElem?_eq_getElem hlt] using h1
    show (wx.heap.modify O _)[O]? = _
    rw [Array.getElem?_eq_getElem (by simpa using hlt), Array.getElem_modify_self, h']
    rfl
  · by_cases he : j = i
    · subst he
      exact ⟨x, by simp [show l.length - 1 - j < cs.size from by omega], hx⟩
    · obtain ⟨y, hy, hg'⟩ := h3 j (by omega) hl
      exact ⟨y, by rw [Array.getElem?_setIfInBounds_ne (by omega)]; exact hy, hg'⟩
theorem MadeR.start (w : World) (base : Nat) (l : List RV) : MadeR w base w.heap.size l 0 (w.alloc (.cells (madeCells #[.nilIface] l.length) 20)) :=
  ⟨⟨_, heap_alloc_new _ _, by simp [size_madeCells], fun j hj => by omega⟩, (Below.refl _ _).alloc (Nat.le_refl _) _⟩
theorem MadeR.done {w wx : World} {base : Nat} {l : List RV} (h : MadeR w base w.heap.size l l.length wx) (hb : base ≤ w.heap.size) : RV.GoL wx base (some ⟨w.heap.size, 0, none⟩) 0 l.reverse := by
  obtain ⟨cs, h1, h2, h3⟩ := h.row
  refine RV.GoL.of hb l.reverse 0 fun j hj => ?_
  have hj' : j < l.length := by simpa using hj
  obtain ⟨x, hx, hg⟩ := h3 (l.length - 1 - j) (by omega) (by omega)
  have e : l.length - 1 - (l.length - 1 - j) = j := by omega
  rw [e] at hx
  refine ⟨x, by simpa [World.cell?, h1] using hx, ?_⟩
  have e2 : l.reverse[j] = l[l.length - 1 - j] := by rw [List.getElem_reverse]
  rw [e2]
  exact hg.same (SameFrom.of_below h.below base)

def RevPost (l : List RV) (w : World) (base : Nat) (e : Ending) (w' : World) : Prop := ∃ a c, e = .returned (.iface 87 (.slice a l.length c)) ∧ RV.GoL w' base a 0 l.reverse ∧ Below w.heap.size w w'

set_option maxRecDepth 100000 in
set_option maxHeartbeats 800000 in
theorem funcReverse_any (l : List RV) (a : Option Addr) (c : Nat) (w : World) (base : Nat) (hl : l.length ≤ 100000) (hb : base ≤ w.heap.size) (hg : RV.GoL w base a 0 l) :
    Calls Tryz.prog 76 #[.iface 87 (.slice a l.length c)] w (RevPost l w base) := by
  have HG := Lib.hid hg
  have HB := Lib.hid hb
  clear hg hb
  have info : (Tryz.prog.info? 20).map (fun i => (i.zero, i.size, i.bytes)) = some (some .nilIface, 1, 16) := by kernel_rfl
  have hmk := run_make_row' (P := Tryz.prog) 87 20 .nilIface 16 Tryz.underlying87 info rfl .i64 .i64 l.length (by omega) (by omega)
  clear info
  have a_list := as_list_list
  unfold RevPost
  go_enter Tryz.func76, Tryz.ntmps76
  go_wp2_with fail
  have H0 := Lib.hid (MadeR.start w base l)
  go_loopg [6, 7, 24] (l.length) (fun gk _ _ s24 wr => ∃ i : Nat, s24 = .int .i64 i ∧ i ≤ l.length ∧ gk = l.length - i ∧ Hid (MadeR w base w.heap.size l i wr))
  case atStart => exact ⟨0, rfl, Nat.zero_le _, rfl, H0⟩
  case round =>
    obtain ⟨i, rfl, hi, rfl, HM⟩ := hrel
    by_cases hlt : i < l.length
    · obtain ⟨eb, eo, x, rfl, _, e0, hx⟩ := HG.out.get i hlt
      simp only [Nat.zero_add] at e0
      have HX := Lib.hid hx
      have hel := cell_lt e0
      have f0 := (HM.out.below.cell (p := ⟨eb, _, none⟩) hel).trans e0
      have hidx : (l.length : Int) - (i : Int) - 1 = ((l.length - 1 - i : Nat) : Int) := by omega
      have hi0 : (0 : Int) ≤ ((l.length - 1 - i : Nat) : Int) := by omega
      have hi1 : ((l.length - 1 - i : Nat) : Int) < (l.length : Int) := by omega
      have hj1 : (i : Int) < (l.length : Int) := by omega
      obtain ⟨u, hcO⟩ := HM.out.cell (l.length - 1 - i) (by omega)
      have hfO := HM.out.fr (l.length - 1 - i)
      clear e0 hi
      rcases hx.shape with rfl | ⟨ty, y, rfl⟩
      all_goals
        clear hx
        go_wp2_with fail
        go_roundg (l.length - (i + 1))
        case measure => clear hidx; omega
        case rel => exact ⟨i + 1, by go_num, by clear hidx; omega, rfl, HM.out.store hlt _ HX.out⟩
    · obtain rfl : i = l.length := by omega
      go_wp2_with fail
      go_ret
      exact ⟨_, _, rfl, HM.out.done HB.out, HM.out.below⟩
end Go.Proofs.YtjpcdbopioblaaaGreatDoor
