/- Twice a half, cut, compared and made whole again. No program in sight. -/
import Derived.Test.YtjpcdbopioblaaaDoorFloats
namespace Go.Proofs.YtjpcdbopioblaaaDoor
open Ieee

/-- What a whole number reads as. -/
theorem int_word (h : Int) (h0 : h ≠ 0) (h1 : -9007199254740992 < h) (h2 : h < 9007199254740992) : floatOfInt .f64 h = double.word (decide (h < 0)) (rung h.natAbs 0) := by
  have hl := log2_le h.natAbs (by omega)
  show double.nearest (decide (h < 0)) h.natAbs 0 = _
  exact nearest_exact _ _ _ (by omega) (by omega) (by omega) (by omega)

theorem int_read (h : Int) (h0 : h ≠ 0) (h1 : -9007199254740992 < h) (h2 : h < 9007199254740992) :
    double.read (floatOfInt .f64 h) = .number (decide (h < 0)) (sig h.natAbs) (h.natAbs.log2 - 52) := by
  have hl := log2_le h.natAbs (by omega)
  rw [int_word h h0 h1 h2, read_rung _ _ _ (by omega) (by omega) (by omega) (by omega)]
  congr 1
  omega

theorem twice_bits (h : Int) (h0 : h ≠ 0) (h1 : -9007199254740992 < h) (h2 : h < 9007199254740992) :
    floatBits .mul .f64 4611686018427387904 (double.write (.number (decide (h < 0)) h.natAbs (-1))) = some (floatOfInt .f64 h) := by
  have hl := log2_le h.natAbs (by omega)
  have two : double.read 4611686018427387904 = .number false (2 ^ 52) (-51) := by decide +kernel
  rw [half_write h h0 h1 h2, int_word h h0 h1 h2]
  generalize decide (h < 0) = s
  have hm : 0 < h.natAbs := by omega
  have hm2 : h.natAbs < 2 ^ 53 := by omega
  generalize h.natAbs = m at hm hm2 hl
  show double.mul _ _ = _
  unfold Format.mul
  rw [read_rung s m (-1) hm hm2 (by omega) (by omega), two]
  show some (double.nearest (false ^^ s) (2 ^ 52 * sig m) (-51 + (-1 + (m.log2 : Int) - 52))) = _
  have e1 : 2 ^ 52 * sig m = m * 2 ^ (104 - m.log2) := by
    unfold sig
    rw [show 104 - m.log2 = (52 - m.log2) + 52 by omega, Nat.pow_add, Nat.mul_comm (2 ^ 52), Nat.mul_assoc]
  rw [e1, show (-51 + (-1 + (m.log2 : Int) - 52)) = 0 - ((104 - m.log2 : Nat) : Int) by omega, nearest_shift _ m _ 0 hm hm2 (by omega) (by omega)]
  cases s <;> rfl

theorem cut_zero_exact (neg : Bool) (n e : Nat) (hn : 0 < n) : Toward.zero.cut neg (n * 2 ^ e) e = n := by
  have hl := log2_mul_pow n e hn
  unfold Toward.cut
  have hmin : min e ((n * 2 ^ e).log2 + 2) = e := by rw [hl]; omega
  simp only [hmin, Nat.one_shiftLeft]
  rw [Nat.mul_div_cancel _ (Nat.two_pow_pos e)]
  rfl

theorem int_integral (h : Int) (h0 : h ≠ 0) (h1 : -9007199254740992 < h) (h2 : h < 9007199254740992) :
    (double.read (floatOfInt .f64 h)).integral .zero = .number (decide (h < 0)) h.natAbs 0 := by
  have hl := log2_le h.natAbs (by omega)
  rw [int_read h h0 h1 h2]
  have hm : 0 < h.natAbs := by omega
  generalize h.natAbs = m at hm hl
  show Datum.number _ (Toward.zero.cut _ (sig m <<< ((m.log2 : Int) - 52).toNat) (-((m.log2 : Int) - 52)).toNat) 0 = _
  have e1 : ((m.log2 : Int) - 52).toNat = 0 := by omega
  have e2 : (-((m.log2 : Int) - 52)).toNat = 52 - m.log2 := by omega
  rw [e1, e2, Nat.shiftLeft_zero]
  unfold sig
  rw [cut_zero_exact _ _ _ hm]

theorem trunc_bits (h : Int) (h0 : h ≠ 0) (h1 : -9007199254740992 < h) (h2 : h < 9007199254740992) :
    double.write ((double.read (floatOfInt .f64 h)).integral .zero) = floatOfInt .f64 h := by
  rw [int_integral h h0 h1 h2]; rfl

theorem toInt_bits (h : Int) (h0 : h ≠ 0) (h1 : -9007199254740992 < h) (h2 : h < 9007199254740992) : floatToIntVal .f64 (floatOfInt .f64 h) .i64 = some h := by
  unfold floatToIntVal
  have e : (FloatKind.f64.decode (floatOfInt .f64 h)).toInt .zero = some h := by
    show (double.read (floatOfInt .f64 h)).toInt .zero = some h
    unfold Datum.toInt
    rw [int_integral h h0 h1 h2]
    show some (signed _ h.natAbs 0) = some h
    unfold signed
    rw [Nat.shiftLeft_zero]
    congr 1
    by_cases hn : h < 0
    · simp [hn]; omega
    · simp [hn]; omega
  rw [e]
  dsimp only
  rw [if_pos]
  exact ⟨by show (-9223372036854775808 : Int) ≤ h; omega, by show h ≤ (9223372036854775807 : Int); omega⟩

theorem order_same (h : Int) (h0 : h ≠ 0) (h1 : -9007199254740992 < h) (h2 : h < 9007199254740992) : double.order (floatOfInt .f64 h) (floatOfInt .f64 h) = some .eq := by
  unfold Format.order
  rw [int_read h h0 h1 h2]
  show some (compare _ _) = _
  simp

theorem cmp_gt (a b : Int) (h : b < a) : compare a b = Ordering.gt := by
  show (if a < b then Ordering.lt else if a = b then .eq else .gt) = _
  rw [if_neg (by omega), if_neg (by omega)]
theorem cmp_lt (a b : Int) (h : a < b) : compare a b = Ordering.lt := by
  show (if a < b then Ordering.lt else if a = b then .eq else .gt) = _
  rw [if_pos h]
theorem order_num (s t : Bool) (a b : Nat) (i j : Int) : (Datum.number s a i).order (.number t b j) = some (compare (signed s a (i - min i j).toNat) (signed t b (j - min i j).toNat)) := rfl

theorem order_low (h : Int) (h0 : h ≠ 0) (h1 : -9007199254740992 < h) (h2 : h < 9007199254740992) : double.order (floatOfInt .f64 h) 14109777632551763968 = some .gt := by
  have hl := log2_le h.natAbs (by omega)
  unfold Format.order
  have hc : double.read 14109777632551763968 = .number true (2 ^ 52) 10 := by decide +kernel
  have hs := sig_bounds h.natAbs (by omega) (by omega)
  rw [int_read h h0 h1 h2, hc, order_num]
  generalize sig h.natAbs = S at hs
  generalize h.natAbs.log2 = L at hl
  have hmin : min ((L : Int) - 52) 10 = L - 52 := by omega
  rw [hmin]
  have e1 : ((L : Int) - 52 - (L - 52)).toNat = 0 := by omega
  have e2 : ((10 : Int) - (L - 52)).toNat = 10 + (52 - L) := by omega
  rw [e1, e2]
  have hb : (2 : Nat) ^ 52 * 2 ^ 10 ≤ 2 ^ 52 <<< (10 + (52 - L)) := by
    rw [Nat.shiftLeft_eq]; exact Nat.mul_le_mul_left _ (Nat.pow_le_pow_right (by decide) (by omega))
  have p53 : (2 : Nat) ^ 53 = 9007199254740992 := by decide
  have p62 : (2 : Nat) ^ 52 * 2 ^ 10 = 4611686018427387904 := by decide
  rw [p62] at hb
  rw [p53] at hs
  congr 1
  refine cmp_gt _ _ ?_
  unfold signed
  generalize (2 : Nat) ^ 52 <<< (10 + (52 - L)) = B at hb
  rw [Nat.shiftLeft_zero]
  have hb2 := hs.2
  simp only [if_true]
  split <;> omega

theorem order_high (h : Int) (h0 : h ≠ 0) (h1 : -9007199254740992 < h) (h2 : h < 9007199254740992) : double.order (floatOfInt .f64 h) 4886405595696988160 = some .lt := by
  have hl := log2_le h.natAbs (by omega)
  unfold Format.order
  have hc : double.read 4886405595696988160 = .number false (2 ^ 52) 10 := by decide +kernel
  have hs := sig_bounds h.natAbs (by omega) (by omega)
  rw [int_read h h0 h1 h2, hc, order_num]
  generalize sig h.natAbs = S at hs
  generalize h.natAbs.log2 = L at hl
  have hmin : min ((L : Int) - 52) 10 = L - 52 := by omega
  rw [hmin]
  have e1 : ((L : Int) - 52 - (L - 52)).toNat = 0 := by omega
  have e2 : ((10 : Int) - (L - 52)).toNat = 10 + (52 - L) := by omega
  rw [e1, e2]
  have hb : (2 : Nat) ^ 52 * 2 ^ 10 ≤ 2 ^ 52 <<< (10 + (52 - L)) := by
    rw [Nat.shiftLeft_eq]; exact Nat.mul_le_mul_left _ (Nat.pow_le_pow_right (by decide) (by omega))
  have p53 : (2 : Nat) ^ 53 = 9007199254740992 := by decide
  have p62 : (2 : Nat) ^ 52 * 2 ^ 10 = 4611686018427387904 := by decide
  rw [p62] at hb
  rw [p53] at hs
  congr 1
  refine cmp_lt _ _ ?_
  unfold signed
  generalize (2 : Nat) ^ 52 <<< (10 + (52 - L)) = B at hb
  rw [Nat.shiftLeft_zero]
  have hb2 := hs.2
  simp only [Bool.false_eq_true, if_false]
  split <;> omega
end Go.Proofs.YtjpcdbopioblaaaDoor
