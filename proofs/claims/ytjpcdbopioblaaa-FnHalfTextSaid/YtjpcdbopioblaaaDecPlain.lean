/- Decimals as lists of digits: their values, division by a power of two, comparing. No walk, no program. -/
import Derived.Test.YtjpcdbopioblaaaBase
namespace Go.Proofs.Ytjpcdbopioblaaa

/-- The number that digits write, the first ones before the others. -/
def numL (l : List Nat) : Nat := l.foldl (fun n d => 10 * n + d) 0
theorem numL_nil : numL [] = 0 := rfl
theorem numL_snoc (l : List Nat) (d : Nat) : numL (l ++ [d]) = 10 * numL l + d := by unfold numL; rw [List.foldl_append]; rfl
/-- .. that the first i ones write, zeros standing behind the last one. -/
def numP (l : List Nat) : Nat → Nat
  | 0 => 0
  | i + 1 => 10 * numP l i + l.getD i 0
theorem numP_take (l : List Nat) : ∀ i, i ≤ l.length → numP l i = numL (l.take i)
  | 0, _ => rfl
  | i + 1, h => by
    rw [List.take_succ_eq_append_getElem (by omega), numL_snoc, ← numP_take l i (by omega)]
    show 10 * numP l i + l.getD i 0 = _
    rw [List.getD_eq_getElem?_getD, List.getElem?_eq_getElem (by omega)]
    rfl
theorem numP_all (l : List Nat) : numP l l.length = numL l := by rw [numP_take l _ (Nat.le_refl _), List.take_length]
theorem numP_more (l : List Nat) (j : Nat) : numP l (l.length + j) = numL l * 10 ^ j := by
  induction j with
  | zero => rw [Nat.add_zero, numP_all]; simp
  | succ j ih =>
    show 10 * numP l (l.length + j) + l.getD (l.length + j) 0 = _
    rw [ih, List.getD_eq_getElem?_getD, List.getElem?_eq_none (by omega)]
    rw [Nat.pow_succ]
    simp
    rw [Nat.mul_left_comm, Nat.mul_comm 10]
def Digs (l : List Nat) : Prop := ∀ d ∈ l, d < 10
theorem Digs.getD {l : List Nat} (h : Digs l) (i : Nat) : l.getD i 0 < 10 := by
  rw [List.getD_eq_getElem?_getD]
  by_cases hi : i < l.length
  · rw [List.getElem?_eq_getElem hi]; exact h _ (List.getElem_mem _)
  · rw [List.getElem?_eq_none (by omega)]; decide
theorem numP_lt {l : List Nat} (h : Digs l) (i : Nat) : numP l i < 10 ^ i := by
  induction i with
  | zero => simp [numP]
  | succ i ih =>
    have := h.getD i
    unfold numP
    rw [Nat.pow_succ]
    omega
/-- From one place to a later one. -/
theorem numP_step {l : List Nat} (h : Digs l) (i j : Nat) : numP l i * 10 ^ j ≤ numP l (i + j) ∧ numP l (i + j) < (numP l i + 1) * 10 ^ j := by
  induction j with
  | zero => simp
  | succ j ih =>
    have hd := h.getD (i + j)
    have e : numP l (i + (j + 1)) = 10 * numP l (i + j) + l.getD (i + j) 0 := rfl
    rw [e, Nat.pow_succ]
    obtain ⟨h1, h2⟩ := ih
    constructor
    · rw [← Nat.mul_assoc]; omega
    · rw [← Nat.mul_assoc]; omega
/-- The first digit is not 0: at least so much. -/
theorem numP_ge {l : List Nat} (h : Digs l) (h0 : l.getD 0 0 ≠ 0) (i : Nat) : 10 ^ i ≤ numP l (i + 1) := by
  have h1 := (numP_step h 1 i).1
  have h2 : numP l 1 = l.getD 0 0 := by simp [numP]
  rw [h2, Nat.add_comm] at h1
  have h3 := Nat.mul_le_mul_right (10 ^ i) (Nat.one_le_iff_ne_zero.2 h0)
  rw [Nat.one_mul] at h3
  exact Nat.le_trans h3 h1

/-- A number's digits. -/
def dig (n : Nat) : List Nat := if _h : n < 10 then [n] else dig (n / 10) ++ [n % 10]
termination_by n
decreasing_by omega
theorem numL_dig (n : Nat) : numL (dig n) = n := by
  induction n using Nat.strongRecOn with
  | ind n ih =>
    unfold dig
    split
    · simp [numL]
    · rw [numL_snoc, ih (n / 10) (by omega)]; omega
theorem digs_dig (n : Nat) : Digs (dig n) := by
  induction n using Nat.strongRecOn with
  | ind n ih =>
    unfold dig
    split
    · intro d hd; simp at hd; omega
    · intro d hd
      rcases List.mem_append.1 hd with hd | hd
      · exact ih (n / 10) (by omega) d hd
      · simp at hd; omega
theorem dig_ne (n : Nat) : dig n ≠ [] := by unfold dig; split <;> simp
theorem dig_first {n : Nat} (hn : 0 < n) : (dig n).getD 0 0 ≠ 0 := by
  induction n using Nat.strongRecOn with
  | ind n ih =>
    unfold dig
    split
    · simp; omega
    · have h := ih (n / 10) (by omega) (by omega)
      have hl : 0 < (dig (n / 10)).length := List.length_pos_iff.2 (dig_ne _)
      rw [List.getD_eq_getElem?_getD, List.getElem?_append_left hl, ← List.getD_eq_getElem?_getD]
      exact h
/-- Digits that begin with no 0 are the number's. -/
theorem dig_unique : ∀ (k : Nat) (l : List Nat), l.length = k + 1 → Digs l → l.getD 0 0 ≠ 0 → l = dig (numL l)
  | 0, l, hl, hd, h0 => by
    obtain ⟨d, rfl⟩ := List.length_eq_one_iff.1 hl
    have : d < 10 := hd d (by simp)
    unfold dig
    rw [dif_pos (by simpa [numL] using this)]
    simp [numL]
  | k + 1, l, hl, hd, h0 => by
    have hne : l ≠ [] := by intro e; rw [e] at hl; simp at hl
    have e := List.dropLast_concat_getLast hne
    have hlen : l.dropLast.length = k + 1 := by rw [List.length_dropLast, hl]; omega
    have hd' : Digs l.dropLast := fun d h => hd d (List.dropLast_subset l h)
    have h0' : l.dropLast.getD 0 0 ≠ 0 := by
      rw [← e, List.getD_eq_getElem?_getD, List.getElem?_append_left (by omega), ← List.getD_eq_getElem?_getD] at h0
      exact h0
    have ih := dig_unique k l.dropLast hlen hd' h0'
    have hg : l.getLast hne < 10 := hd _ (List.getLast_mem hne)
    have hn : numL l = 10 * numL l.dropLast + l.getLast hne := by conv => lhs; rw [← e, numL_snoc]
    have hpos : 0 < numL l.dropLast := by
      have h1 := numP_ge hd' h0' k
      rw [← hlen, numP_all] at h1
      exact Nat.lt_of_lt_of_le (Nat.pow_pos (by decide)) h1
    rw [hn]
    unfold dig
    rw [dif_neg (by omega)]
    have e1 : (10 * numL l.dropLast + l.getLast hne) / 10 = numL l.dropLast := by omega
    have e2 : (10 * numL l.dropLast + l.getLast hne) % 10 = l.getLast hne := by omega
    rw [e1, e2, ← ih]
    exact e.symm
end Go.Proofs.Ytjpcdbopioblaaa
