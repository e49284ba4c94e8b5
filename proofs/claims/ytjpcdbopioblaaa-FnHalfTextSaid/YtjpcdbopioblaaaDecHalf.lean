/- A decimal divided by a power of two, digit by digit; the shortest digits of a half; its text. No walk, no program. -/
import Derived.Test.YtjpcdbopioblaaaDecVal
namespace Go.Proofs.Ytjpcdbopioblaaa

theorem numP_next {ds : List Nat} (hd : Digs ds) {k i : Nat} (h : numP ds i < 2 ^ k) : numP ds (i + 1) < 10 * 2 ^ k := by
  have h1 := hd.getD i
  show 10 * numP ds i + _ < _
  omega
/-- While the quotient's digits are written: n is what is left at place i. -/
structure HB (ds : List Nat) (k i0 i n : Nat) (out : List Nat) : Prop where
  eq : numP ds i = 10 * 2 ^ k * numL out + n
  lt : n < 10 * 2 ^ k
  len : out.length + i0 = i
  digs : Digs out
  none : out = [] → 2 ^ k ≤ n
  first : out ≠ [] → out.getD 0 0 ≠ 0
  div : ds.length ≤ i → (i - ds.length ≤ k ∧ 2 ^ (i - ds.length) ∣ n) ∨ n = 0
theorem HB.start {ds : List Nat} {k i : Nat} (hd : Digs ds) (h0 : 0 < numL ds) (hp : numP ds i < 2 ^ k) (hn : 2 ^ k ≤ numP ds (i + 1)) : HB ds k (i + 1) (i + 1) (numP ds (i + 1)) [] := by
  refine ⟨by rw [numL_nil]; omega, numP_next hd hp, by simp, by intro d hd; simp at hd, fun _ => hn, fun h => absurd rfl h, fun hl => .inl ?_⟩
  have e : numP ds (i + 1) = numL ds * 10 ^ (i + 1 - ds.length) := by
    have : i + 1 = ds.length + (i + 1 - ds.length) := by omega
    conv => lhs; rw [this]
    exact numP_more ds _
  constructor
  · refine Classical.byContradiction fun hk => ?_
    have e2 : numP ds i = numL ds * 10 ^ (i - ds.length) := by
      have : i = ds.length + (i - ds.length) := by omega
      conv => lhs; rw [this]
      exact numP_more ds _
    have h1 : 2 ^ k ≤ 10 ^ (i - ds.length) := Nat.le_trans (Nat.pow_le_pow_left (by decide) k) (Nat.pow_le_pow_right (by decide) (by omega))
    have h2 : 10 ^ (i - ds.length) ≤ numL ds * 10 ^ (i - ds.length) := Nat.le_mul_of_pos_left _ h0
    omega
  · rw [e]
    have h1 : (10 : Nat) ^ (i + 1 - ds.length) = 2 ^ (i + 1 - ds.length) * 5 ^ (i + 1 - ds.length) := by rw [← Nat.mul_pow]
    rw [h1]
    exact Nat.dvd_trans (Nat.dvd_mul_right _ _) (Nat.dvd_mul_left _ _)
theorem HB.step {ds : List Nat} {k i0 i n : Nat} {out : List Nat} (h : HB ds k i0 i n out) (hd : Digs ds) : HB ds k i0 (i + 1) (n % 2 ^ k * 10 + ds.getD i 0) (out ++ [n / 2 ^ k]) := by
  have hg := hd.getD i
  have hp : 0 < 2 ^ k := Nat.pow_pos (by decide)
  have hq : n / 2 ^ k < 10 := Nat.div_lt_of_lt_mul (by have := h.lt; rw [Nat.mul_comm] at this; exact this)
  have hr : n % 2 ^ k < 2 ^ k := Nat.mod_lt _ hp
  have hm := Nat.div_add_mod n (2 ^ k)
  refine ⟨?_, by omega, by have := h.len; simp; omega, ?_, fun e => absurd e (by simp), fun _ => ?_, fun hl => ?_⟩
  · show 10 * numP ds i + _ = _
    rw [h.eq, numL_snoc]
    have e : 10 * 2 ^ k * (10 * numL out + n / 2 ^ k) = 10 * (10 * 2 ^ k * numL out) + 10 * (2 ^ k * (n / 2 ^ k)) := by
      rw [Nat.mul_add]
      simp only [Nat.mul_assoc, Nat.mul_comm, Nat.mul_left_comm]
    rw [e]
    omega
  · intro d hdd
    rcases List.mem_append.1 hdd with hdd | hdd
    · exact h.digs d hdd
    · simp at hdd; omega
  · cases out with
    | nil =>
      have := h.none rfl
      simp
      have h1 : 1 ≤ n / 2 ^ k := (Nat.le_div_iff_mul_le hp).2 (by omega)
      omega
    | cons a r =>
      have := h.first (by simp)
      simpa using this
  · by_cases hl2 : ds.length ≤ i
    · have e0 : ds.getD i 0 = 0 := by rw [List.getD_eq_getElem?_getD, List.getElem?_eq_none hl2]; rfl
      rw [e0, Nat.add_zero]
      rcases h.div hl2 with ⟨h1, h2⟩ | h1
      · by_cases hk : i - ds.length = k
        · right
          rw [hk] at h2
          rw [Nat.mod_eq_zero_of_dvd h2, Nat.zero_mul]
        · left
          have e : i + 1 - ds.length = (i - ds.length) + 1 := by omega
          refine ⟨by omega, ?_⟩
          rw [e, Nat.pow_succ]
          have h3 : 2 ^ (i - ds.length) ∣ n % 2 ^ k := (Nat.dvd_mod_iff (Nat.pow_dvd_pow 2 (by omega))).2 h2
          exact Nat.mul_dvd_mul h3 (by decide)
      · right; rw [h1]; simp
    · left
      have : ds.length = i + 1 := by omega
      rw [this, Nat.sub_self]
      exact ⟨Nat.zero_le _, by simp⟩
/-- So many rounds at most. -/
theorem HB.bound {ds : List Nat} {k i0 i n : Nat} {out : List Nat} (h : HB ds k i0 i n out) (hn : i < ds.length ∨ 0 < n) : i < ds.length + k + 1 := by
  rcases hn with hn | hn
  · omega
  · by_cases hl : ds.length ≤ i
    · rcases h.div hl with ⟨h1, _⟩ | h1 <;> omega
    · omega

/-- A half cut short lies half a one below it at least. -/
theorem half_cut {ds : List Nat} {dp m n : Nat} (hd : Digs ds) (hlast : ds.getD (ds.length - 1) 0 ≠ 0) (hv : DVal ds dp m 2) (hn : n < ds.length) : n ≤ dp ∧ 2 * (numP ds n * 10 ^ (dp - n)) + 1 ≤ m ∧ m + 1 ≤ 2 * ((numP ds n + 1) * 10 ^ (dp - n)) := by
  have hl := half_len hv hlast hd
  have hnd : n ≤ dp := by omega
  obtain ⟨j0, hj⟩ := hv.at
  obtain ⟨hl2, he⟩ := hj (j0 + 1) (by omega)
  have hp : 0 < 10 ^ (j0 + 1) := Nat.pow_pos (by decide)
  have hs := numP_strict hd hn hlast
  -- the whole number lies strictly between
  have e1 : numP ds (dp + (j0 + 1)) = numP ds ds.length * 10 ^ (dp + (j0 + 1) - ds.length) := by
    have : dp + (j0 + 1) = ds.length + (dp + (j0 + 1) - ds.length) := by omega
    conv => lhs; rw [this]
    exact numP_far ds (Nat.le_refl _)
  have lo : numP ds n * 10 ^ (dp - n) * 10 ^ (j0 + 1) < numP ds (dp + (j0 + 1)) := by
    rw [e1, Nat.mul_assoc, ← Nat.pow_add]
    have : dp - n + (j0 + 1) = (ds.length - n) + (dp + (j0 + 1) - ds.length) := by omega
    rw [this, Nat.pow_add, ← Nat.mul_assoc]
    exact Nat.mul_lt_mul_of_pos_right hs (Nat.pow_pos (by decide))
  have hi : numP ds (dp + (j0 + 1)) < (numP ds n + 1) * 10 ^ (dp - n) * 10 ^ (j0 + 1) := by
    have h := (numP_step hd n (dp - n + (j0 + 1))).2
    have : n + (dp - n + (j0 + 1)) = dp + (j0 + 1) := by omega
    rw [this] at h
    rw [Nat.mul_assoc, ← Nat.pow_add]
    exact h
  refine ⟨hnd, ?_, ?_⟩
  · refine Classical.byContradiction fun hh => ?_
    have h1 : m ≤ 2 * (numP ds n * 10 ^ (dp - n)) := by omega
    have h2 := Nat.mul_le_mul_right (10 ^ (j0 + 1)) h1
    rw [← he, Nat.mul_assoc] at h2
    omega
  · refine Classical.byContradiction fun hh => ?_
    have h1 : 2 * ((numP ds n + 1) * 10 ^ (dp - n)) ≤ m := by omega
    have h2 := Nat.mul_le_mul_right (10 ^ (j0 + 1)) h1
    rw [← he, Nat.mul_assoc] at h2
    omega
/-- No number with fewer digits lies within. -/
theorem not_down {ds D low : List Nat} {dp m n dpl num den : Nat} (hd : Digs ds) (hlast : ds.getD (ds.length - 1) 0 ≠ 0) (hv : DVal ds dp m 2) (hn : n < ds.length) (hl : D.length ≤ n) (hD : ∀ i, n ≤ i → numP D i = numP ds n * 10 ^ (i - n))
    (hlow : DVal low dpl num den) (hq : (m - 1) * den < 2 * num) : ¬ LeD low dpl D dp := fun h => by
  obtain ⟨h1, h2, _⟩ := half_cut hd hlast hv hn
  have hDv : DVal D dp (numP ds n * 10 ^ (dp - n)) 1 := ⟨0, by omega, by rw [Nat.add_zero, hD dp h1]⟩
  have h3 := h.vals hlow hDv
  generalize numP ds n * 10 ^ (dp - n) = Y at *
  have h4 : 2 * Y * den ≤ (m - 1) * den := Nat.mul_le_mul_right _ (by omega)
  rw [Nat.mul_assoc] at h4
  omega
theorem not_up {ds U high : List Nat} {dp m n dpu dph num den : Nat} (hd : Digs ds) (hlast : ds.getD (ds.length - 1) 0 ≠ 0) (hv : DVal ds dp m 2) (hn : n < ds.length) (hU : DVal U dpu ((numP ds n + 1) * 10 ^ (dp - n)) 1)
    (hhigh : DVal high dph num den) (hq : 2 * num < (m + 1) * den) : ¬ LeD U dpu high dph := fun h => by
  obtain ⟨_, _, h2⟩ := half_cut hd hlast hv hn
  have h3 := h.vals hU hhigh
  generalize (numP ds n + 1) * 10 ^ (dp - n) = Y at *
  have h4 : (m + 1) * den ≤ 2 * Y * den := Nat.mul_le_mul_right _ h2
  rw [Nat.mul_assoc] at h4
  omega

/-- The digits ahead of the point, and the one behind it. -/
theorem half_int {ds : List Nat} {dp m : Nat} (hd : Digs ds) (hlast : ds.getD (ds.length - 1) 0 ≠ 0) (hne : ds ≠ []) (hv : DVal ds dp m 2) : numP ds dp = m / 2 ∧ ds.getD dp 0 = 5 * (m % 2) ∧ (m % 2 = 0 → ds.length ≤ dp) ∧ (m % 2 = 1 → ds.length = dp + 1) := by
  have hl := half_len hv hlast hd
  obtain ⟨j0, hj⟩ := hv.at
  obtain ⟨hl2, he⟩ := hj (j0 + 1) (by omega)
  have e1 : numP ds (dp + (j0 + 1)) = numP ds (dp + 1) * 10 ^ j0 := by
    have : dp + (j0 + 1) = (dp + 1) + j0 := by omega
    rw [this, numP_far ds hl]
  have hp : 0 < 10 ^ j0 := Nat.pow_pos (by decide)
  rw [e1, Nat.pow_succ, Nat.mul_right_comm, ← Nat.mul_assoc, Nat.mul_right_comm m] at he
  have h1 := Nat.eq_of_mul_eq_mul_right hp he
  have h2 : numP ds (dp + 1) = 10 * numP ds dp + ds.getD dp 0 := rfl
  have hg := hd.getD dp
  rw [h2] at h1
  have hpos : 0 < ds.length := List.length_pos_iff.2 hne
  have h3 : numP ds dp = m / 2 := by omega
  have h4 : ds.getD dp 0 = 5 * (m % 2) := by omega
  refine ⟨h3, h4, fun h => ?_, fun h => ?_⟩
  · refine Classical.byContradiction fun hh => ?_
    have e : ds.length - 1 = dp := by omega
    rw [e, h4, h] at hlast
    exact hlast rfl
  · refine Classical.byContradiction fun hh => ?_
    have : ds.getD dp 0 = 0 := by rw [List.getD_eq_getElem?_getD, List.getElem?_eq_none (by omega)]; rfl
    omega
end Go.Proofs.Ytjpcdbopioblaaa
