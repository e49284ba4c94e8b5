/- A half compared with the bounds that the JSON encoder asks for; the greater and the lesser of two doubles. No program in sight. -/
import Derived.Test.YtjpcdbopioblaaaFloats2
import Derived.Laws.Bits64b
import Derived.Laws.BitsAllLaws
namespace Go.Proofs.Ytjpcdbopioblaaa
open Ieee

/-- The bits of a half: h of them. -/
def halfBits (h : Int) : Nat := Ieee.double.write (.number (decide (h < 0)) h.natAbs (-1))
theorem half_word {h : Int} (h0 : h ≠ 0) (h1 : -9007199254740992 < h) (h2 : h < 9007199254740992) : halfBits h = (h.natAbs.log2 + 1021) * 4503599627370496 + sig h.natAbs + (if h < 0 then 9223372036854775808 else 0) := by
  unfold halfBits
  rw [half_write h h0 h1 h2]
  unfold Ieee.Format.word rung
  have sw : Ieee.double.signWeight = 9223372036854775808 := by decide
  have e : ((-1 : Int) + h.natAbs.log2 + 1022).toNat = h.natAbs.log2 + 1021 := by omega
  rw [sw, e]
  by_cases hn : h < 0
  · simp [hn, Nat.add_comm]
  · simp [hn]
theorem half_read (h : Int) (h0 : h ≠ 0) (h1 : -9007199254740992 < h) (h2 : h < 9007199254740992) : double.read (halfBits h) = .number (decide (h < 0)) (sig h.natAbs) (h.natAbs.log2 - 53) := by
  have hl := log2_le h.natAbs (by omega)
  unfold halfBits
  rw [half_write h h0 h1 h2, read_rung _ _ _ (by omega) (by omega) (by omega) (by omega)]
  congr 1
  omega
theorem half_order_same (h : Int) (h0 : h ≠ 0) (h1 : -9007199254740992 < h) (h2 : h < 9007199254740992) : double.order (halfBits h) (halfBits h) = some .eq := by
  unfold Format.order
  rw [half_read h h0 h1 h2]
  show some (compare _ _) = _
  simp
theorem shl_ge (c n k : Nat) (h : k ≤ n) : c * 2 ^ k ≤ c <<< n := by rw [Nat.shiftLeft_eq]; exact Nat.mul_le_mul_left _ (Nat.pow_le_pow_right (by decide) h)
theorem half_gt_low (h : Int) (h0 : h ≠ 0) (h1 : -9007199254740992 < h) (h2 : h < 9007199254740992) : double.order (halfBits h) 18442240474082181119 = some .gt := by
  have hl := log2_le h.natAbs (by omega)
  unfold Format.order
  have hc : double.read 18442240474082181119 = .number true 9007199254740991 971 := by decide +kernel
  have hs := sig_bounds h.natAbs (by omega) (by omega)
  rw [half_read h h0 h1 h2, hc, order_num]
  generalize sig h.natAbs = S at hs
  generalize h.natAbs.log2 = L at hl
  have hmin : min ((L : Int) - 53) 971 = L - 53 := by omega
  rw [hmin]
  have e1 : ((L : Int) - 53 - (L - 53)).toNat = 0 := by omega
  rw [e1]
  have hb := shl_ge 9007199254740991 ((971 : Int) - (L - 53)).toNat 1 (by omega)
  have p53 : (2 : Nat) ^ 53 = 9007199254740992 := by decide
  rw [p53] at hs
  congr 1
  refine cmp_gt _ _ ?_
  unfold signed
  generalize 9007199254740991 <<< ((971 : Int) - (L - 53)).toNat = B at hb
  rw [Nat.shiftLeft_zero]
  have hb2 := hs.2
  simp only [if_true]
  split <;> omega
theorem half_lt_high (h : Int) (h0 : h ≠ 0) (h1 : -9007199254740992 < h) (h2 : h < 9007199254740992) : double.order (halfBits h) 9218868437227405311 = some .lt := by
  have hl := log2_le h.natAbs (by omega)
  unfold Format.order
  have hc : double.read 9218868437227405311 = .number false 9007199254740991 971 := by decide +kernel
  have hs := sig_bounds h.natAbs (by omega) (by omega)
  rw [half_read h h0 h1 h2, hc, order_num]
  generalize sig h.natAbs = S at hs
  generalize h.natAbs.log2 = L at hl
  have hmin : min ((L : Int) - 53) 971 = L - 53 := by omega
  rw [hmin]
  have e1 : ((L : Int) - 53 - (L - 53)).toNat = 0 := by omega
  rw [e1]
  have hb := shl_ge 9007199254740991 ((971 : Int) - (L - 53)).toNat 1 (by omega)
  have p53 : (2 : Nat) ^ 53 = 9007199254740992 := by decide
  rw [p53] at hs
  congr 1
  refine cmp_lt _ _ ?_
  unfold signed
  generalize 9007199254740991 <<< ((971 : Int) - (L - 53)).toNat = B at hb
  rw [Nat.shiftLeft_zero]
  have hb2 := hs.2
  simp only [Bool.false_eq_true, if_false]
  split <;> omega
theorem half_lt_e21 (h : Int) (h0 : 0 < h) (h2 : h < 9007199254740992) : double.order (halfBits h) 4921056587992461136 = some .lt := by
  have hl := log2_le h.natAbs (by omega)
  unfold Format.order
  have hc : double.read 4921056587992461136 = .number false 7629394531250000 17 := by decide +kernel
  have hs := sig_bounds h.natAbs (by omega) (by omega)
  rw [half_read h (by omega) (by omega) h2, hc, order_num]
  generalize sig h.natAbs = S at hs
  generalize h.natAbs.log2 = L at hl
  have hmin : min ((L : Int) - 53) 17 = L - 53 := by omega
  rw [hmin]
  have e1 : ((L : Int) - 53 - (L - 53)).toNat = 0 := by omega
  rw [e1]
  have hb := shl_ge 7629394531250000 ((17 : Int) - (L - 53)).toNat 1 (by omega)
  have p53 : (2 : Nat) ^ 53 = 9007199254740992 := by decide
  rw [p53] at hs
  congr 1
  refine cmp_lt _ _ ?_
  unfold signed
  generalize 7629394531250000 <<< ((17 : Int) - (L - 53)).toNat = B at hb
  rw [Nat.shiftLeft_zero]
  have hb2 := hs.2
  simp only [Bool.false_eq_true, if_false]
  split <;> omega
theorem half_gt_e6 (h : Int) (h0 : 0 < h) (h2 : h < 9007199254740992) : double.order (halfBits h) 4517329193108106637 = some .gt := by
  have hl := log2_le h.natAbs (by omega)
  unfold Format.order
  have hc : double.read 4517329193108106637 = .number false 4722366482869645 (-72) := by decide +kernel
  have hs := sig_bounds h.natAbs (by omega) (by omega)
  rw [half_read h (by omega) (by omega) h2, hc, order_num]
  generalize sig h.natAbs = S at hs
  generalize h.natAbs.log2 = L at hl
  have hmin : min ((L : Int) - 53) (-72) = -72 := by omega
  rw [hmin]
  have e1 : ((-72 : Int) - -72).toNat = 0 := by omega
  rw [e1]
  have hb := shl_ge S ((L : Int) - 53 - -72).toNat 1 (by omega)
  have p52 : (2 : Nat) ^ 52 = 4503599627370496 := by decide
  rw [p52] at hs
  congr 1
  refine cmp_gt _ _ ?_
  unfold signed
  generalize S <<< ((L : Int) - 53 - -72).toNat = B at hb
  rw [Nat.shiftLeft_zero]
  have hb2 := hs.1
  have hd : decide (h < 0) = false := by simp; omega
  rw [hd]
  simp only [Bool.false_eq_true, if_false]
  omega
theorem half_gt_0 (h : Int) (h0 : 0 < h) (h2 : h < 9007199254740992) : double.order (halfBits h) 0 = some .gt := by
  have hl := log2_le h.natAbs (by omega)
  unfold Format.order
  have hc : double.read 0 = .number false 0 (-1074) := by decide +kernel
  have hs := sig_bounds h.natAbs (by omega) (by omega)
  rw [half_read h (by omega) (by omega) h2, hc, order_num]
  generalize sig h.natAbs = S at hs
  generalize h.natAbs.log2 = L at hl
  have hmin : min ((L : Int) - 53) (-1074) = -1074 := by omega
  rw [hmin]
  have hb := shl_ge S ((L : Int) - 53 - -1074).toNat 1 (by omega)
  have p52 : (2 : Nat) ^ 52 = 4503599627370496 := by decide
  rw [p52] at hs
  congr 1
  refine cmp_gt _ _ ?_
  unfold signed
  generalize S <<< ((L : Int) - 53 - -1074).toNat = B at hb
  have hb2 := hs.1
  have hd : decide (h < 0) = false := by simp; omega
  have e0 : (0 : Nat) <<< ((-1074 : Int) - -1074).toNat = 0 := by rw [Nat.shiftLeft_eq, Nat.zero_mul]
  rw [hd, e0]
  simp only [Bool.false_eq_true, if_false]
  omega
/-- The sign struck. -/
theorem half_abs (h : Int) (h0 : h ≠ 0) (h1 : -9007199254740992 < h) (h2 : h < 9007199254740992) : bits .andNot .u64 (halfBits h : Int) 9223372036854775808 = (halfBits (h.natAbs : Int) : Int) := by
  have e1 := half_word h0 h1 h2
  have e2 := half_word (h := (h.natAbs : Int)) (by omega) (by omega) (by omega)
  have hl := log2_le h.natAbs (by omega)
  have hs := sig_bounds h.natAbs (by omega) (by omega)
  have p52 : (2 : Nat) ^ 52 = 4503599627370496 := by decide
  have p53 : (2 : Nat) ^ 53 = 9007199254740992 := by decide
  rw [p52, p53] at hs
  rw [Int.natAbs_natCast, if_neg (by omega)] at e2
  rw [e2]
  generalize sig h.natAbs = S at *
  generalize h.natAbs.log2 = L at *
  generalize halfBits h = B at *
  have hB : B < 18446744073709551616 := by rw [e1]; split <;> omega
  refine (u64_andNot_nat B 9223372036854775808 hB (by omega)).trans ?_
  have h3 : B &&& (18446744073709551615 - 9223372036854775808) = B % 9223372036854775808 := Nat.and_two_pow_sub_one_eq_mod B 63
  rw [h3, e1]
  split <;> omega
theorem run_max_gt {P : Program} (ts : Array TypeId) (t : TypeId) (k : FloatKind) (x y : Nat) (w : World) (h : k.format.order x y = some .gt) : (Builtin.max_ ts t #[.float k x, .float k y]).run P w = .ok (.float k x) w := by
  simp [Builtin.max_, Builtin.max2, h]
theorem run_min_lt {P : Program} (ts : Array TypeId) (t : TypeId) (k : FloatKind) (x y : Nat) (w : World) (h : k.format.order x y = some .lt) : (Builtin.min_ ts t #[.float k x, .float k y]).run P w = .ok (.float k x) w := by
  simp [Builtin.min_, Builtin.min2, h]
end Go.Proofs.Ytjpcdbopioblaaa
