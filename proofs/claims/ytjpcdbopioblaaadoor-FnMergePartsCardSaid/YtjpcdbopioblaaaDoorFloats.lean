/- Doubles that hold a whole number of halves: what is written and read back. No program in sight. -/
import Derived.Laws.FloatArith
namespace Go.Proofs.YtjpcdbopioblaaaDoor
open Ieee

theorem log2_mul_pow (m d : Nat) (hm : 0 < m) : (m * 2 ^ d).log2 = m.log2 + d := by
  have h1 := Nat.log2_self_le (n := m) (by omega)
  have h2 := Nat.lt_log2_self (n := m)
  have hp : 0 < 2 ^ d := Nat.two_pow_pos d
  refine (Nat.log2_eq_iff (by have := Nat.mul_pos hm hp; omega)).2 ⟨?_, ?_⟩
  · rw [Nat.pow_add]; exact Nat.mul_le_mul_right _ h1
  · rw [show m.log2 + d + 1 = m.log2 + 1 + d by omega, Nat.pow_add]; exact Nat.mul_lt_mul_of_pos_right h2 hp

/-- The rung's significand. -/
def sig (m : Nat) : Nat := m * 2 ^ (52 - m.log2)
theorem log2_le (m : Nat) (hm2 : m < 2 ^ 53) : m.log2 ≤ 52 := by
  rcases Nat.eq_zero_or_pos m with rfl | h
  · simp
  · have := (Nat.log2_lt (by omega)).2 hm2; omega
theorem sig_bounds (m : Nat) (hm : 0 < m) (hm2 : m < 2 ^ 53) : 2 ^ 52 ≤ sig m ∧ sig m < 2 ^ 53 := by
  have h1 := Nat.log2_self_le (n := m) (by omega)
  have h2 := Nat.lt_log2_self (n := m)
  have hl := log2_le m hm2
  unfold sig
  have hp : 0 < 2 ^ (52 - m.log2) := Nat.two_pow_pos _
  constructor
  · calc 2 ^ 52 = 2 ^ (m.log2 + (52 - m.log2)) := by congr 1; omega
      _ = 2 ^ m.log2 * 2 ^ (52 - m.log2) := Nat.pow_add _ _ _
      _ ≤ _ := Nat.mul_le_mul_right _ h1
  · calc m * 2 ^ (52 - m.log2) < 2 ^ (m.log2 + 1) * 2 ^ (52 - m.log2) := Nat.mul_lt_mul_of_pos_right h2 hp
      _ = 2 ^ (m.log2 + 1 + (52 - m.log2)) := (Nat.pow_add _ _ _).symm
      _ = 2 ^ 53 := by congr 1; omega

/-- The rung of m * 2 ^ p. -/
def rung (m : Nat) (p : Int) : Nat := (p + m.log2 + 1022).toNat * 2 ^ 52 + sig m

theorem cut_even_exact (neg : Bool) (n e : Nat) (hn : 0 < n) : Toward.even.cut neg (n * 2 ^ e) e = n := by
  have hl := log2_mul_pow n e hn
  unfold Toward.cut
  have hmin : min e ((n * 2 ^ e).log2 + 2) = e := by rw [hl]; omega
  simp only [hmin, Nat.one_shiftLeft]
  have hp : 0 < 2 ^ e := Nat.two_pow_pos e
  rw [Nat.mul_div_cancel _ hp, Nat.mul_mod_left]
  have h1 : (2 ^ e < 2 * 0) = False := by simp
  have h2 : (2 ^ e == 2 * 0) = false := by simp
  simp [h2]

theorem nearest_shift (neg : Bool) (m d : Nat) (p : Int) (hm : 0 < m) (hm2 : m < 2 ^ 53) (hp : -1022 ≤ p + m.log2) (hp2 : p + m.log2 ≤ 1023) :
    double.nearest neg (m * 2 ^ d) (p - d) = double.word neg (rung m p) := by
  have hl := log2_mul_pow m d hm
  have hl52 := log2_le m hm2
  have hpd : 0 < 2 ^ d := Nat.two_pow_pos d
  have hmd : m * 2 ^ d ≠ 0 := by have := Nat.mul_pos hm hpd; omega
  have hs := sig_bounds m hm hm2
  have least : double.leastPlace = -1074 := by decide
  have frac : double.fractionBits = 52 := rfl
  unfold Format.nearest
  rw [if_neg hmd, hl, least, frac]
  have hlast : max (p - (d : Int) + ((m.log2 + d : Nat) : Int) - ((52 : Nat) : Int)) (-1074) = p + m.log2 - 52 := by
    rw [Int.max_def]; split <;> omega
  simp only [hlast]
  have hkept : Toward.even.cut neg ((m * 2 ^ d) <<< (p - (d : Int) - (p + m.log2 - 52)).toNat) (p + m.log2 - 52 - (p - (d : Int))).toNat = sig m := by
    by_cases hd : d ≤ 52 - m.log2
    · have e1 : (p - (d : Int) - (p + m.log2 - 52)).toNat = 52 - m.log2 - d := by omega
      have e2 : (p + m.log2 - 52 - (p - (d : Int))).toNat = 0 := by omega
      rw [e1, e2, Nat.shiftLeft_eq]
      have := cut_even_exact neg (m * 2 ^ d * 2 ^ (52 - m.log2 - d)) 0 (Nat.mul_pos (Nat.mul_pos hm hpd) (Nat.two_pow_pos _))
      rw [Nat.pow_zero, Nat.mul_one] at this
      rw [this, Nat.mul_assoc, ← Nat.pow_add]
      unfold sig
      congr 2; omega
    · have e1 : (p - (d : Int) - (p + m.log2 - 52)).toNat = 0 := by omega
      have e2 : (p + m.log2 - 52 - (p - (d : Int))).toNat = d - (52 - m.log2) := by omega
      rw [e1, e2, Nat.shiftLeft_zero]
      have := cut_even_exact neg (sig m) (d - (52 - m.log2)) (by omega)
      rw [← this]
      congr 1
      unfold sig
      rw [Nat.mul_assoc, ← Nat.pow_add]
      congr 2; omega
  rw [hkept]
  have hbin : double.binade = 2 ^ 52 := rfl
  have hinf : double.infRung = 2047 * 2 ^ 52 := by decide
  rw [hbin, hinf]
  have e3 : (p + m.log2 - 52 - -1074).toNat = (p + m.log2 + 1022).toNat := by omega
  rw [e3]
  unfold rung
  congr 1
  have : (p + m.log2 + 1022).toNat ≤ 2045 := by omega
  rw [Nat.min_def]
  split
  · rfl
  · rename_i hlt
    exfalso
    have : (p + m.log2 + 1022).toNat * 2 ^ 52 ≤ 2045 * 2 ^ 52 := Nat.mul_le_mul_right _ this
    omega

theorem nearest_exact (neg : Bool) (m : Nat) (p : Int) (hm : 0 < m) (hm2 : m < 2 ^ 53) (hp : -1022 ≤ p + m.log2) (hp2 : p + m.log2 ≤ 1023) :
    double.nearest neg m p = double.word neg (rung m p) := by
  have := nearest_shift neg m 0 p hm hm2 hp hp2
  simpa using this

theorem read_word (neg : Bool) (E k : Nat) (hk : 2 ^ 52 ≤ k) (hk2 : k < 2 ^ 53) (hE : E ≤ 2045) :
    double.read (double.word neg (E * 2 ^ 52 + k)) = .number neg k ((E : Int) - 1074) := by
  have sw : double.signWeight = 2 ^ 63 := rfl
  have hr : E * 2 ^ 52 + k < 2 ^ 63 := by have : E * 2 ^ 52 ≤ 2045 * 2 ^ 52 := Nat.mul_le_mul_right _ hE; omega
  have hn : (double.word neg (E * 2 ^ 52 + k) / double.signWeight % 2 == 1) = neg := by
    rw [sw]
    unfold Format.word
    rw [sw]
    cases neg
    · simp only [Bool.false_eq_true, if_false]
      rw [Nat.div_eq_of_lt hr]; rfl
    · simp only [if_true]
      rw [Nat.add_comm, Nat.add_div_right _ (by decide), Nat.div_eq_of_lt hr]; rfl
  have hm : double.word neg (E * 2 ^ 52 + k) % double.signWeight = E * 2 ^ 52 + k := by
    unfold Format.word
    rw [sw]
    cases neg
    · simp only [Bool.false_eq_true, if_false]
      exact Nat.mod_eq_of_lt hr
    · simp only [if_true]
      rw [Nat.add_comm, Nat.add_mod_right, Nat.mod_eq_of_lt hr]
  unfold Format.read
  rw [hn, hm]
  have hbin : double.binade = 2 ^ 52 := rfl
  have hinf : double.infRung = 2047 * 2 ^ 52 := by decide
  have least : double.leastPlace = -1074 := by decide
  rw [hbin, hinf, least]
  dsimp only
  rw [if_neg (by omega), if_pos (by have : E * 2 ^ 52 ≤ 2045 * 2 ^ 52 := Nat.mul_le_mul_right _ hE; omega)]
  have p52 : (2 : Nat) ^ 52 = 4503599627370496 := by decide
  have p53 : (2 : Nat) ^ 53 = 9007199254740992 := by decide
  rw [p52] at hk ⊢
  rw [p53] at hk2
  have e1 : 4503599627370496 + (E * 4503599627370496 + k) % 4503599627370496 = k := by omega
  have e2 : (E * 4503599627370496 + k) / 4503599627370496 = E + 1 := by omega
  rw [e1, e2]
  have e3 : (-1074 : Int) + ((E + 1 - 1 : Nat) : Int) = (E : Int) - 1074 := by omega
  rw [e3]

theorem read_rung (neg : Bool) (m : Nat) (p : Int) (hm : 0 < m) (hm2 : m < 2 ^ 53) (hp : -1022 ≤ p + m.log2) (hp2 : p + m.log2 ≤ 1023) :
    double.read (double.word neg (rung m p)) = .number neg (sig m) (p + m.log2 - 52) := by
  have hs := sig_bounds m hm hm2
  unfold rung
  rw [read_word neg _ _ hs.1 hs.2 (by omega)]
  congr 1
  omega

theorem quotient_num (digits : Nat) (s t : Bool) (m n : Nat) (i j : Int) (hn : n ≠ 0) :
    (Datum.number s m i).quotient digits (.number t n j) = some (.number (s ^^ t) (2 * ((m <<< (digits + n.log2 - m.log2)) / n) + (((m <<< (digits + n.log2 - m.log2)) % n) != 0).toNat) (i - j - ((digits + n.log2 - m.log2 : Nat) : Int) - 1)) :=
  if_neg hn

/-- The bits of a whole number of halves. -/
theorem half_write (h : Int) (h0 : h ≠ 0) (h1 : -9007199254740992 < h) (h2 : h < 9007199254740992) :
    double.write (.number (decide (h < 0)) h.natAbs (-1)) = double.word (decide (h < 0)) (rung h.natAbs (-1)) := by
  have hl := log2_le h.natAbs (by omega)
  exact nearest_exact _ _ _ (by omega) (by omega) (by omega) (by omega)

theorem half_bits (h : Int) (h1 : -9007199254740992 < h) (h2 : h < 9007199254740992) :
    floatBits .quo .f64 (floatOfInt .f64 h) 4611686018427387904 = some (double.write (.number (decide (h < 0)) h.natAbs (-1))) := by
  by_cases h0 : h = 0
  · subst h0; decide +kernel
  have hl := log2_le h.natAbs (by omega)
  have e0 : floatOfInt .f64 h = double.nearest (decide (h < 0)) h.natAbs 0 := rfl
  have two : double.read 4611686018427387904 = .number false (2 ^ 52) (-51) := by decide +kernel
  rw [half_write h h0 h1 h2, e0, nearest_exact _ _ _ (by omega) (by omega) (by omega) (by omega)]
  generalize decide (h < 0) = s
  have hm : 0 < h.natAbs := by omega
  have hm2 : h.natAbs < 2 ^ 53 := by omega
  generalize h.natAbs = m at hm hm2 hl
  show double.div _ _ = _
  unfold Format.div
  rw [read_rung s m 0 hm hm2 (by omega) (by omega), two]
  have hs := sig_bounds m hm hm2
  have hls : (sig m).log2 = 52 := (Nat.log2_eq_iff (by omega)).2 hs
  have frac : double.fractionBits = 52 := rfl
  have hl2 : (2 ^ 52 : Nat).log2 = 52 := by decide +kernel
  have hq : sig m <<< (52 + 2 + 52 - 52) = sig m * 4 * 2 ^ 52 := by rw [Nat.shiftLeft_eq]; omega
  have key : (Datum.number s (sig m) (0 + (m.log2 : Int) - 52)).quotient (double.fractionBits + 2) (.number false (2 ^ 52) (-51)) = some (.number s (sig m * 8) (-1 + m.log2 - 52 - 3)) := by
    rw [quotient_num _ _ _ _ _ _ _ (by decide), hls, hl2, frac]
    rw [hq, Nat.mul_div_cancel _ (by decide), Nat.mul_mod_left]
    simp only [Bool.bne_false, bne_self_eq_false, Bool.toNat_false, Nat.add_zero, Option.some.injEq, Datum.number.injEq]
    refine ⟨by cases s <;> trivial, by omega, by omega⟩
  rw [key]
  show some (double.nearest s (sig m * 8) (-1 + m.log2 - 52 - 3)) = _
  have h8 : sig m * 8 = m * 2 ^ (52 - m.log2 + 3) := by unfold sig; rw [Nat.pow_add, Nat.mul_assoc]
  rw [h8, show (-1 + (m.log2 : Int) - 52 - 3) = -1 - ((52 - m.log2 + 3 : Nat) : Int) by omega, nearest_shift s m _ (-1) hm hm2 (by omega) (by omega)]
end Go.Proofs.YtjpcdbopioblaaaDoor
