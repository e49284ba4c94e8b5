/- Rows of the reference's values that a call makes of values that were there: plain laws. -/
import Derived.Test.YtjpcdbopioblaaaDoorLawFits
namespace Go.Proofs.YtjpcdbopioblaaaDoor
open Go.RowKit

/-- A row of the call's own: the first i values of l, each of which lay in the world w already. -/
structure RowW (w : World) (lo : Nat) (l : List RV) (i : Nat) (sl : Value) (wr : World) : Prop where
  row : ∃ xs : List Value, wr.ownsRow lo 26 6 sl i xs ∧ ∀ (j : Nat) (_ : j < i) (h : j < l.length), ∃ c0 c1 c2 c3 c4 c5, (xs.drop (j * 6)).take 6 = [c0, c1, c2, c3, c4, c5] ∧ l[j].Rep w (.agg #[c0, c1, c2, c3, c4, c5])
  below : Below w.heap.size w wr
  lo : w.heap.size ≤ lo

theorem RowW.nil {w wr : World} {lo : Nat} {l : List RV} (hb : Below w.heap.size w wr) (hlo : w.heap.size ≤ lo) : RowW w lo l 0 (.slice none 0 0) wr :=
  ⟨⟨[], World.ownsRow_nil _ _ _ _, fun j hj => absurd hj (Nat.not_lt_zero _)⟩, hb, hlo⟩
theorem RowW.shape {w wr : World} {lo i : Nat} {l : List RV} {sl : Value} (h : RowW w lo l i sl wr) : ∃ a c, sl = .slice a i c := by
  obtain ⟨xs, h1, _⟩ := h.row
  rcases h1.2 with ⟨rfl, rfl⟩ | ⟨g, cap, cur, rfl, _⟩
  · exact ⟨_, _, rfl⟩
  · exact ⟨_, _, rfl⟩
theorem RowW.push {w wr w' : World} {lo i : Nat} {l : List RV} {sl sl' c0 c1 c2 c3 c4 c5 : Value} {xs : List Value} (h : RowW w lo l i sl wr) (hi : i < l.length) (hxl : xs.length = i * 6)
    (hx : ∀ (j : Nat) (_ : j < i) (h : j < l.length), ∃ c0 c1 c2 c3 c4 c5, (xs.drop (j * 6)).take 6 = [c0, c1, c2, c3, c4, c5] ∧ l[j].Rep w (.agg #[c0, c1, c2, c3, c4, c5]))
    (hr : l[i].Rep w (.agg #[c0, c1, c2, c3, c4, c5])) (hown : w'.ownsRow lo 26 6 sl' (i + 1) (xs ++ [c0, c1, c2, c3, c4, c5])) (hb : Below w.heap.size w w') : RowW w lo l (i + 1) sl' w' := by
  refine ⟨⟨_, hown, fun j hj hjl => ?_⟩, hb, h.lo⟩
  rcases Nat.lt_or_ge j i with hji | hji
  · rw [List.drop_append_of_le_length (by omega), List.take_append_of_le_length (by simp; omega)]
    exact hx j hji hjl
  · have : j = i := by omega
    subst this
    rw [List.drop_append, List.drop_eq_nil_of_le (by omega), hxl, Nat.sub_self]
    exact ⟨c0, c1, c2, c3, c4, c5, by simp, hr⟩
theorem RowW.repL {w wr : World} {lo : Nat} {l : List RV} {sl : Value} (h : RowW w lo l l.length sl wr) : ∃ a c, sl = .slice a l.length c ∧ ∀ wx, Below wr.heap.size wr wx → RV.RepL wx a 0 l := by
  obtain ⟨xs, hown, hel⟩ := h.row
  have hlen := hown.1
  have hcell := fun g => hown.cells (g := g)
  rcases hown.2 with ⟨rfl, h0⟩ | ⟨g, cap, cur, rfl, hb, hg, hn, _, _, _⟩
  · have : l = [] := List.eq_nil_of_length_eq_zero h0
    subst this
    exact ⟨none, 0, rfl, fun _ _ => by unfold RV.RepL; trivial⟩
  · refine ⟨_, cap, rfl, fun wx hx => RV.RepL.of l 0 fun j hj => ?_⟩
    obtain ⟨c0, c1, c2, c3, c4, c5, e, hr⟩ := hel j hj hj
    have hglt := (Array.getElem?_eq_some_iff.1 hg).1
    have get : ∀ (k : Nat) (c : Value), ([c0, c1, c2, c3, c4, c5] : List Value)[k]? = some c → wx.cell? ⟨g, 0 + (0 + j) * 6 + k, none⟩ = some c := by
      intro k c hk
      have hk6 : k < 6 := by
        rcases Nat.lt_or_ge k 6 with h | h
        · exact h
        · rw [List.getElem?_eq_none (by simpa using h)] at hk; cases hk
      have h1 : xs[j * 6 + k]? = some c := by
        rw [← e, List.getElem?_take, if_pos hk6, List.getElem?_drop] at hk
        exact hk
      have h2 := hcell g rfl (j * 6 + k) c h1
      have e2 : (⟨g, 0, none⟩ : Addr).add (j * 6 + k) = ⟨g, 0 + (0 + j) * 6 + k, none⟩ := by unfold Addr.add; split <;> simp_all
      rw [e2] at h2
      exact (World.cell?_of_block (hx.block g hglt)).trans h2
    exact ⟨c0, c1, c2, c3, c4, c5, get 0 _ rfl, get 1 _ rfl, get 2 _ rfl, get 3 _ rfl, get 4 _ rfl, get 5 _ rfl, hr.below (h.below.trans (hx.mono h.below.size))⟩
theorem RowW.repL2 {w wr : World} {lo : Nat} {l : List RV} {sl : Value} (h : RowW w lo l l.length sl wr) : ∃ a c, sl = .slice a l.length c ∧ ∀ wx, Below w.heap.size w wx → SameFrom lo wr wx → RV.RepL wx a 0 l := by
  obtain ⟨xs, hown, hel⟩ := h.row
  have hlen := hown.1
  have hcell := fun g => hown.cells (g := g)
  rcases hown.2 with ⟨rfl, h0⟩ | ⟨g, cap, cur, rfl, hb, hg, hn, _, _, _⟩
  · have : l = [] := List.eq_nil_of_length_eq_zero h0
    subst this
    exact ⟨none, 0, rfl, fun _ _ _ => by unfold RV.RepL; trivial⟩
  · refine ⟨_, cap, rfl, fun wx hbw hx => RV.RepL.of l 0 fun j hj => ?_⟩
    obtain ⟨c0, c1, c2, c3, c4, c5, e, hr⟩ := hel j hj hj
    have hglt := (Array.getElem?_eq_some_iff.1 hg).1
    have get : ∀ (k : Nat) (c : Value), ([c0, c1, c2, c3, c4, c5] : List Value)[k]? = some c → wx.cell? ⟨g, 0 + (0 + j) * 6 + k, none⟩ = some c := by
      intro k c hk
      have hk6 : k < 6 := by
        rcases Nat.lt_or_ge k 6 with h | h
        · exact h
        · rw [List.getElem?_eq_none (by simpa using h)] at hk; cases hk
      have h1 : xs[j * 6 + k]? = some c := by
        rw [← e, List.getElem?_take, if_pos hk6, List.getElem?_drop] at hk
        exact hk
      have h2 := hcell g rfl (j * 6 + k) c h1
      have e2 : (⟨g, 0, none⟩ : Addr).add (j * 6 + k) = ⟨g, 0 + (0 + j) * 6 + k, none⟩ := by unfold Addr.add; split <;> simp_all
      rw [e2] at h2
      exact (World.cell?_of_block (hx g hb hglt)).trans h2
    exact ⟨c0, c1, c2, c3, c4, c5, get 0 _ rfl, get 1 _ rfl, get 2 _ rfl, get 3 _ rfl, get 4 _ rfl, get 5 _ rfl, hr.below hbw⟩
end Go.Proofs.YtjpcdbopioblaaaDoor
