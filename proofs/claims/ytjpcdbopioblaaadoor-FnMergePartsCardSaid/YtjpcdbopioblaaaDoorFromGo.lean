/- The thin package's way back walked: lists. -/
import Derived.Test.YtjpcdbopioblaaaDoorFromGo0
import Derived.Test.YtjpcdbopioblaaaDoorAppendRow
namespace Go.Proofs.YtjpcdbopioblaaaDoor
open Go.RowKit

/-- An element that came back: its cells, and that it lies in blocks of its own. -/
def Elem (lo : Nat) (w : World) (own : Option Nat) (y : RV) (cs : List Value) : Prop :=
  ∃ c0 c1 c2 c3 c4 c5 a b, cs = [c0, c1, c2, c3, c4, c5] ∧ lo ≤ a ∧ b ≤ w.heap.size ∧ (∀ g, own = some g → ¬ (a ≤ g ∧ g < b)) ∧
    ∀ wx, (∀ i, a ≤ i → i < b → wx.heap[i]? = w.heap[i]?) → y.Rep wx (.agg #[c0, c1, c2, c3, c4, c5])

theorem Elem.step {lo : Nat} {w w' : World} {own own' : Option Nat} {y : RV} {cs : List Value} (h : Elem lo w own y cs) (hw : ∀ k, lo ≤ k → k < w.heap.size → some k ≠ own → w'.heap[k]? = w.heap[k]?) (hz : w.heap.size ≤ w'.heap.size)
    (ho : own' = own ∨ ∃ g, own' = some g ∧ w.heap.size ≤ g) : Elem lo w' own' y cs := by
  obtain ⟨c0, c1, c2, c3, c4, c5, a, b, e, ha, hb, hg, hr⟩ := h
  refine ⟨c0, c1, c2, c3, c4, c5, a, b, e, ha, by omega, ?_, fun wx hx => hr wx fun i h1 h2 => ?_⟩
  · intro g hgo
    rcases ho with rfl | ⟨g', rfl, hg'⟩
    · exact hg g hgo
    · injection hgo with hgo; omega
  · rw [hx i h1 h2]
    exact hw i (by omega) (by omega) (fun e => hg i e.symm ⟨h1, h2⟩)

theorem RV.RepL.of {w : World} {b o : Nat} : ∀ (l : List RV) (i : Nat), (∀ (j : Nat) (_ : j < l.length), ∃ c0 c1 c2 c3 c4 c5, w.cell? ⟨b, o + (i + j) * 6, none⟩ = some c0 ∧ w.cell? ⟨b, o + (i + j) * 6 + 1, none⟩ = some c1 ∧ w.cell? ⟨b, o + (i + j) * 6 + 2, none⟩ = some c2 ∧
      w.cell? ⟨b, o + (i + j) * 6 + 3, none⟩ = some c3 ∧ w.cell? ⟨b, o + (i + j) * 6 + 4, none⟩ = some c4 ∧ w.cell? ⟨b, o + (i + j) * 6 + 5, none⟩ = some c5 ∧ l[j].Rep w (.agg #[c0, c1, c2, c3, c4, c5])) → RV.RepL w (some ⟨b, o, none⟩) i l
  | [], _, _ => by unfold RV.RepL; trivial
  | y :: ys, i, h => by
    unfold RV.RepL
    obtain ⟨c0, c1, c2, c3, c4, c5, k0, k1, k2, k3, k4, k5, hr⟩ := h 0 (by simp)
    refine ⟨⟨b, o, c0, c1, c2, c3, c4, c5, rfl, by simpa using k0, by simpa using k1, by simpa using k2, by simpa using k3, by simpa using k4, by simpa using k5, by simpa using hr⟩, RV.RepL.of ys (i + 1) fun j hj => ?_⟩
    obtain ⟨c0, c1, c2, c3, c4, c5, k0, k1, k2, k3, k4, k5, hr⟩ := h (j + 1) (by simpa using hj)
    rw [show i + (j + 1) = i + 1 + j by omega] at k0 k1 k2 k3 k4 k5
    exact ⟨c0, c1, c2, c3, c4, c5, k0, k1, k2, k3, k4, k5, by simpa using hr⟩

/-- A row of values that has been filled so far: the values of the first i elements of l. -/
def RowOf (lo : Nat) (w : World) (sl : Value) (l : List RV) (i : Nat) : Prop :=
  ∃ xs : List Value, w.ownsRow lo 26 6 sl i xs ∧ ∀ (j : Nat) (_ : j < i) (h : j < l.length), Elem lo w sl.ownBlock l[j] ((xs.drop (j * 6)).take 6)

theorem RowOf.lt {lo : Nat} {w : World} {sl : Value} {l : List RV} {i : Nat} (h : RowOf lo w sl l i) : ∀ k, sl.ownBlock = some k → lo ≤ k ∧ k < w.heap.size := by
  obtain ⟨xs, h1, _⟩ := h; exact h1.lt
theorem RowOf.step {lo : Nat} {w w' : World} {sl : Value} {l : List RV} {i : Nat} (h : RowOf lo w sl l i) (hw : ∀ k, lo ≤ k → k < w.heap.size → w'.heap[k]? = w.heap[k]?) (hz : w.heap.size ≤ w'.heap.size) : RowOf lo w' sl l i := by
  obtain ⟨xs, h1, h2⟩ := h
  refine ⟨xs, ⟨h1.1, ?_⟩, fun j hj hl => (h2 j hj hl).step (fun k hk hk2 _ => hw k hk hk2) hz (.inl rfl)⟩
  rcases h1.2 with hn | ⟨g, cap, cur, e, hb, hg, rest⟩
  · exact .inl hn
  · exact .inr ⟨g, cap, cur, e, hb, (hw g hb (Array.getElem?_eq_some_iff.1 hg).1).trans hg, rest⟩

/-- The row behind an append of one more value. -/
theorem RowOf.push {lo : Nat} {w w' : World} {sl sl' : Value} {l : List RV} {i : Nat} {c0 c1 c2 c3 c4 c5 : Value} (h : RowOf lo w sl l i) (hi : i < l.length) (he : Elem lo w sl.ownBlock l[i] [c0, c1, c2, c3, c4, c5])
    (xs : List Value) (hx : ∀ (j : Nat) (_ : j < i) (h : j < l.length), Elem lo w sl.ownBlock l[j] ((xs.drop (j * 6)).take 6)) (hl : xs.length = i * 6)
    (hown : w'.ownsRow lo 26 6 sl' (i + 1) (xs ++ [c0, c1, c2, c3, c4, c5])) (hg : w.grownBy w' sl.ownBlock) (ho : sl'.ownBlock = sl.ownBlock ∨ sl'.ownBlock = some w.heap.size) : RowOf lo w' sl' l (i + 1) := by
  have ho' : sl'.ownBlock = sl.ownBlock ∨ ∃ g, sl'.ownBlock = some g ∧ w.heap.size ≤ g := ho.imp id fun e => ⟨_, e, Nat.le_refl _⟩
  refine ⟨_, hown, fun j hj hjl => ?_⟩
  rcases Nat.lt_or_ge j i with hji | hji
  · rw [List.drop_append_of_le_length (by omega), List.take_append_of_le_length (by simp; omega)]
    exact (hx j hji hjl).step (fun k _ hk hne => hg.block k hk hne) hg.size ho'
  · have : j = i := by omega
    subst this
    rw [List.drop_append, List.drop_eq_nil_of_le (by omega), hl, Nat.sub_self]
    exact he.step (fun k _ hk hne => hg.block k hk hne) hg.size ho'

/-- The row, full, is the list. -/
theorem RowOf.repL {lo : Nat} {w : World} {sl : Value} {l : List RV} (h : RowOf lo w sl l l.length) : ∃ a cap, sl = .slice a l.length cap ∧ ∀ wx, SameFrom lo w wx → RV.RepL wx a 0 l := by
  obtain ⟨xs, hown, hel⟩ := h
  have hlen := hown.1
  have hcell := fun g => hown.cells (g := g)
  rcases hown.2 with ⟨rfl, h0⟩ | ⟨g, cap, cur, rfl, hb, hg, hn, _, _, _⟩
  · have : l = [] := List.eq_nil_of_length_eq_zero h0
    subst this
    exact ⟨none, 0, rfl, fun _ _ => by unfold RV.RepL; trivial⟩
  · refine ⟨_, cap, rfl, fun wx hx => RV.RepL.of l 0 fun j hj => ?_⟩
    obtain ⟨c0, c1, c2, c3, c4, c5, a, b, e, ha, hb2, hgo, hr⟩ := hel j hj hj
    have hglt := (Array.getElem?_eq_some_iff.1 hg).1
    have get : ∀ (k : Nat) (c : Value), ([c0, c1, c2, c3, c4, c5] : List Value)[k]? = some c → wx.cell? ⟨g, 0 + (0 + j) * 6 + k, none⟩ = some c := by
      intro k c hk
      have hk6 : k < 6 := by
        rcases Nat.lt_or_ge k 6 with h | h
        · exact h
        · rw [List.getElem?_eq_none (by simpa using h)] at hk; cases hk
      have h1 : xs[j * 6 + k]? = some c := by
        rw [← e, List.getElem?_take, if_pos hk6, List.getElem?_drop] at hk
        exact hk
      have h2 := hcell g rfl (j * 6 + k) c h1
      have e2 : (⟨g, 0, none⟩ : Addr).add (j * 6 + k) = ⟨g, 0 + (0 + j) * 6 + k, none⟩ := by unfold Addr.add; split <;> simp_all
      rw [e2] at h2
      exact (World.cell?_of_block (hx g hb hglt)).trans h2
    exact ⟨c0, c1, c2, c3, c4, c5, get 0 _ rfl, get 1 _ rfl, get 2 _ rfl, get 3 _ rfl, get 4 _ rfl, get 5 _ rfl, hr wx fun i h1 h2 => hx i (by omega) (by omega)⟩
end Go.Proofs.YtjpcdbopioblaaaDoor
