/- What a decimal stands for; division, comparing, cutting. No walk, no program. -/
import Derived.Test.YtjpcdbopioblaaaDecPlain
namespace Go.Proofs.Ytjpcdbopioblaaa

theorem numP_eq {l l' : List Nat} (h : ∀ i, l.getD i 0 = l'.getD i 0) : ∀ i, numP l i = numP l' i
  | 0 => rfl
  | i + 1 => by show 10 * numP l i + _ = 10 * numP l' i + _; rw [numP_eq h i, h i]
theorem numP_trim (l : List Nat) (i : Nat) : numP (l ++ [0]) i = numP l i := by
  refine numP_eq (fun i => ?_) i
  rw [List.getD_eq_getElem?_getD, List.getD_eq_getElem?_getD]
  rcases Nat.lt_trichotomy i l.length with h | h | h
  · rw [List.getElem?_append_left h]
  · subst h; rw [List.getElem?_append_right (Nat.le_refl _), List.getElem?_eq_none (Nat.le_refl _)]; simp
  · rw [List.getElem?_eq_none (by simp; omega), List.getElem?_eq_none (by omega)]
/-- Behind the last digit. -/
theorem numP_far (l : List Nat) {i t : Nat} (h : l.length ≤ i) : numP l (i + t) = numP l i * 10 ^ t := by
  obtain ⟨u, rfl⟩ : ∃ u, i = l.length + u := ⟨i - l.length, by omega⟩
  rw [Nat.add_assoc, numP_more, numP_more, Nat.pow_add, Nat.mul_assoc]

/-- 0.ds times 10 to the power dp is num / den. -/
def DVal (ds : List Nat) (dp num den : Nat) : Prop := ∃ j, ds.length ≤ dp + j ∧ numP ds (dp + j) * den = num * 10 ^ j
theorem DVal.at {ds : List Nat} {dp num den : Nat} (h : DVal ds dp num den) : ∃ j0, ∀ j, j0 ≤ j → ds.length ≤ dp + j ∧ numP ds (dp + j) * den = num * 10 ^ j := by
  obtain ⟨j0, hl, he⟩ := h
  refine ⟨j0, fun j hj => ⟨by omega, ?_⟩⟩
  obtain ⟨t, rfl⟩ : ∃ t, j = j0 + t := ⟨j - j0, by omega⟩
  rw [← Nat.add_assoc, numP_far ds hl, Nat.mul_right_comm, he, Nat.pow_add, Nat.mul_assoc]
theorem DVal.trim {ds : List Nat} {dp num den : Nat} (h : DVal (ds ++ [0]) dp num den) : DVal ds dp num den := by
  obtain ⟨j, hl, he⟩ := h
  rw [numP_trim] at he
  exact ⟨j, by simp at hl; omega, he⟩
/-- A whole number. -/
theorem DVal.whole (n : Nat) : DVal (dig n) (dig n).length n 1 := ⟨0, by simp, by rw [Nat.add_zero, numP_all, numL_dig]⟩
/-- Division by a power of two. -/
theorem DVal.half {ds out : List Nat} {dp num den k i i0 : Nat} (h : DVal ds dp num den) (hi : ds.length ≤ i) (e : numP ds i = 10 * 2 ^ k * numL out) (hl : out.length + i0 = i) (h0 : i0 ≤ dp + 1) : DVal out (dp + 1 - i0) num (den * 2 ^ k) := by
  obtain ⟨j0, hj⟩ := h.at
  obtain ⟨-, he⟩ := hj (j0 + i) (by omega)
  refine ⟨j0 + i, by omega, ?_⟩
  obtain ⟨t, ht⟩ : ∃ t, dp + (j0 + i) = i + t := ⟨dp + j0, by omega⟩
  have e1 : numP ds (dp + (j0 + i)) = numP ds i * 10 ^ t := by rw [ht, numP_far ds hi]
  have e2 : numP out (dp + 1 - i0 + (j0 + i)) = numL out * 10 ^ (t + 1) := by
    have : dp + 1 - i0 + (j0 + i) = out.length + (t + 1) := by omega
    rw [this, numP_more]
  rw [← he, e1, e2, e, Nat.pow_succ]
  simp only [Nat.mul_assoc, Nat.mul_comm, Nat.mul_left_comm]

/-- A is not greater than B. -/
def LeD (A : List Nat) (a : Nat) (B : List Nat) (b : Nat) : Prop := ∃ j0, ∀ j, j0 ≤ j → numP A (a + j) ≤ numP B (b + j)
theorem LeD.vals {A B : List Nat} {a b n d n' d' : Nat} (h : LeD A a B b) (hA : DVal A a n d) (hB : DVal B b n' d') : n * d' ≤ n' * d := by
  obtain ⟨j0, h0⟩ := h
  obtain ⟨j1, h1⟩ := hA.at
  obtain ⟨j2, h2⟩ := hB.at
  have x0 := h0 (j0 + j1 + j2) (by omega)
  have x1 := (h1 (j0 + j1 + j2) (by omega)).2
  have x2 := (h2 (j0 + j1 + j2) (by omega)).2
  generalize j0 + j1 + j2 = j at *
  have hp : 0 < 10 ^ j := Nat.pow_pos (by decide)
  refine Nat.le_of_mul_le_mul_right (c := 10 ^ j) ?_ hp
  calc n * d' * 10 ^ j = (n * 10 ^ j) * d' := by rw [Nat.mul_right_comm]
    _ = numP A (a + j) * d * d' := by rw [x1]
    _ ≤ numP B (b + j) * d * d' := Nat.mul_le_mul_right _ (Nat.mul_le_mul_right _ x0)
    _ = numP B (b + j) * d' * d := by rw [Nat.mul_right_comm]
    _ = n' * 10 ^ j * d := by rw [x2]
    _ = n' * d * 10 ^ j := by rw [Nat.mul_right_comm]
theorem leD_dp {A B : List Nat} {a b : Nat} (hA : Digs A) (hB : Digs B) (h0 : B.getD 0 0 ≠ 0) (h : a < b) : LeD A a B b := by
  refine ⟨0, fun j _ => ?_⟩
  have h1 := numP_lt hA (a + j)
  have h2 := numP_ge hB h0 (b + j - 1)
  have e : b + j - 1 + 1 = b + j := by omega
  rw [e] at h2
  have h3 : 10 ^ (a + j) ≤ 10 ^ (b + j - 1) := Nat.pow_le_pow_right (by decide) (by omega)
  omega
theorem leD_digit {A B : List Nat} {a i : Nat} (hA : Digs A) (hB : Digs B) (he : numP A i = numP B i) (hlt : A.getD i 0 < B.getD i 0) : LeD A a B a := by
  refine ⟨i + 1, fun j hj => ?_⟩
  obtain ⟨t, ht⟩ : ∃ t, a + j = (i + 1) + t := ⟨a + j - (i + 1), by omega⟩
  rw [ht]
  have h1 := (numP_step hA (i + 1) t).2
  have h2 := (numP_step hB (i + 1) t).1
  have e1 : numP A (i + 1) = 10 * numP A i + A.getD i 0 := rfl
  have e2 : numP B (i + 1) = 10 * numP B i + B.getD i 0 := rfl
  have h3 : (numP A (i + 1) + 1) * 10 ^ t ≤ numP B (i + 1) * 10 ^ t := Nat.mul_le_mul_right _ (by omega)
  omega
theorem leD_same {A B : List Nat} {a n : Nat} (hA : A.length ≤ n) (hB : B.length ≤ n) (he : numP A n = numP B n) : LeD A a B a := by
  refine ⟨n, fun j hj => ?_⟩
  obtain ⟨t, ht⟩ : ∃ t, a + j = n + t := ⟨a + j - n, by omega⟩
  rw [ht, numP_far A hA, numP_far B hB, he]
  exact Nat.le_refl _

theorem numP_last (l : List Nat) : ∀ n, 0 < n → numP l n = 10 * numP l (n - 1) + l.getD (n - 1) 0
  | _ + 1, _ => rfl
/-- What is cut away is not nothing. -/
theorem numP_strict {l : List Nat} (h : Digs l) {n : Nat} (hn : n < l.length) (hlast : l.getD (l.length - 1) 0 ≠ 0) : numP l n * 10 ^ (l.length - n) < numP l l.length := by
  have e : l.length = (l.length - 1) + 1 := by omega
  have h1 := numP_last l l.length (by omega)
  have h2 := (numP_step h n (l.length - 1 - n)).1
  have e2 : n + (l.length - 1 - n) = l.length - 1 := by omega
  rw [e2] at h2
  have e3 : l.length - n = (l.length - 1 - n) + 1 := by omega
  rw [e3, Nat.pow_succ, ← Nat.mul_assoc]
  omega
/-- Halves have one digit at most behind the point. -/
theorem half_len {ds : List Nat} {dp m : Nat} (hv : DVal ds dp m 2) (hlast : ds.getD (ds.length - 1) 0 ≠ 0) (hd : Digs ds) : ds.length ≤ dp + 1 := by
  refine Classical.byContradiction fun hh => ?_
  obtain ⟨j0, hj⟩ := hv.at
  obtain ⟨hl, he⟩ := hj (j0 + ds.length) (by omega)
  have e1 : numP ds (dp + (j0 + ds.length)) = numP ds ds.length * 10 ^ (dp + j0) := by
    have : dp + (j0 + ds.length) = ds.length + (dp + j0) := by omega
    rw [this, numP_far ds (Nat.le_refl _)]
  have e2 : (10 : Nat) ^ (j0 + ds.length) = 10 ^ (ds.length - dp) * 10 ^ (dp + j0) := by rw [← Nat.pow_add]; congr 1; omega
  rw [e1, e2, ← Nat.mul_assoc, Nat.mul_right_comm] at he
  have hp : 0 < 10 ^ (dp + j0) := Nat.pow_pos (by decide)
  have h3 := Nat.eq_of_mul_eq_mul_right hp he
  have e4 : ds.length - dp = (ds.length - dp - 2) + 2 := by omega
  rw [e4, Nat.pow_add] at h3
  have e : ds.length = (ds.length - 1) + 1 := by omega
  have h1 := numP_last ds ds.length (by omega)
  have hg := hd.getD (ds.length - 1)
  rw [h1] at h3
  have h5 : m * (10 ^ (ds.length - dp - 2) * 10 ^ 2) = 20 * (m * (10 ^ (ds.length - dp - 2) * 5)) := by
    rw [show (10 : Nat) ^ 2 = 20 * 5 from rfl]
    simp only [Nat.mul_assoc, Nat.mul_comm, Nat.mul_left_comm]
  omega
end Go.Proofs.Ytjpcdbopioblaaa
