/- 'FormatFloat' at every half below 2^52: its digits. -/
import Derived.Test.YtjpcdbopioblaaaFmtFloat
import Derived.Test.YtjpcdbopioblaaaFloats3
namespace Go.Proofs.Ytjpcdbopioblaaa
open Go.RowKit

theorem bits_and_i64_natF (a b : Nat) (ha : a < 9223372036854775808) (hb : b < 9223372036854775808) : bits .and .i64 (a : Int) (b : Int) = ((a &&& b : Nat) : Int) := by
  have hx : a &&& b < 2 ^ 63 := Nat.and_lt_two_pow _ (by omega)
  have h1 : (BitVec.ofInt 64 (a : Int)).toNat = a := by
    rw [BitVec.ofInt_natCast, BitVec.toNat_ofNat]; exact Nat.mod_eq_of_lt (by omega)
  have h2 : (BitVec.ofInt 64 (b : Int)).toNat = b := by
    rw [BitVec.ofInt_natCast, BitVec.toNat_ofNat]; exact Nat.mod_eq_of_lt (by omega)
  show IntKind.i64.wrap ((BitVec.ofInt 64 (a : Int) &&& BitVec.ofInt 64 (b : Int)).toNat : Int) = _
  rw [BitVec.toNat_and, h1, h2]
  generalize a &&& b = c at hx
  exact IntWalk.i64_in _ (by omega)
theorem bit_sign (B L s : Nat) (h : Int) (hw : B = (L + 1021) * 4503599627370496 + s + (if h < 0 then 9223372036854775808 else 0)) (hL : L ≤ 52) (hs : 4503599627370496 ≤ s ∧ s < 9007199254740992) : ((B : Int) / 9223372036854775808 != 0) = decide (h < 0) := by
  have e : (B : Int) / 9223372036854775808 = if h < 0 then 1 else 0 := by
    rw [hw]
    split <;> omega
  rw [e]
  by_cases hn : h < 0
  · simp [hn]
  · simp [hn]
theorem bit_exp (B L s : Nat) (h : Int) (hw : B = (L + 1021) * 4503599627370496 + s + (if h < 0 then 9223372036854775808 else 0)) (hL : L ≤ 52) (hs : 4503599627370496 ≤ s ∧ s < 9007199254740992) : bits .and .i64 (wrap64 ((B : Int) / 4503599627370496)) 2047 = L + 1022 := by
  have e : (B : Int) / 4503599627370496 = ((L + 1022 + (if h < 0 then 2048 else 0) : Nat) : Int) := by rw [hw]; split <;> omega
  have hb : L + 1022 + (if h < 0 then 2048 else 0) < 5000 := by split <;> omega
  have hc : (L + 1022 + (if h < 0 then 2048 else 0)) % 2048 = L + 1022 := by split <;> omega
  rw [e]
  generalize L + 1022 + (if h < 0 then 2048 else 0) = q at hb hc
  have h1 : wrap64 (q : Int) = (q : Int) := IntWalk.wrap64_in _ (by omega)
  have h2 := bits_and_i64_natF q 2047 (by omega) (by omega)
  have h3 : q &&& 2047 = q % 2048 := Nat.and_two_pow_sub_one_eq_mod q 11
  rw [h1]
  refine h2.trans ?_
  rw [h3, hc]
  omega
theorem and_frac (B : Nat) : B &&& 4503599627370495 = B % 4503599627370496 := Nat.and_two_pow_sub_one_eq_mod B 52
theorem bit_frac (B L s : Nat) (h : Int) (hw : B = (L + 1021) * 4503599627370496 + s + (if h < 0 then 9223372036854775808 else 0)) (hL : L ≤ 52) (hs : 4503599627370496 ≤ s ∧ s < 9007199254740992) : bits .and .u64 (B : Int) 4503599627370495 = (s : Int) - 4503599627370496 := by
  have hb : B < 18446744073709551616 := by rw [hw]; split <;> omega
  have hc : B % 4503599627370496 = s - 4503599627370496 := by rw [hw]; split <;> omega
  clear hw
  refine (bits_and_u64_nat B 4503599627370495 hb (by omega)).trans ?_
  rw [and_frac, hc]
  omega
theorem or_top (x : Nat) (h : x < 4503599627370496) : x ||| 4503599627370496 = x + 4503599627370496 := by
  have := Nat.two_pow_add_eq_or_of_lt (i := 52) (b := x) h 1
  rw [Nat.or_comm, Nat.add_comm]
  simpa using this.symm
theorem bit_top (s : Nat) (hs : 4503599627370496 ≤ s ∧ s < 9007199254740992) : bits .or .u64 ((s : Int) - 4503599627370496) 4503599627370496 = (s : Int) := by
  obtain ⟨x, rfl⟩ : ∃ x, s = x + 4503599627370496 := ⟨s - 4503599627370496, by omega⟩
  have e : ((x + 4503599627370496 : Nat) : Int) - 4503599627370496 = (x : Int) := by omega
  rw [e]
  refine (bits_or_u64_nat x 4503599627370496 (by omega) (by omega)).trans ?_
  rw [or_top x (by omega)]
theorem formatFloat_nz (h : Int) (w : World) (h0 : h ≠ 0) (h1 : -9007199254740992 < h) (h2 : h < 9007199254740992) :
    Calls Try.prog 15 #[.float .f64 (halfBits h), .int .u8 102, .int .i64 (-1), .int .i64 64] w fun e w' => e = .returned (.string (textB (numTxt (decide (h < 0)) h.natAbs))) ∧ Below w.heap.size w w' := by
  have hw := half_word h0 h1 h2
  have hm : 0 < h.natAbs := by omega
  have hm2 : h.natAbs < 2 ^ 53 := by omega
  have hL := log2_le h.natAbs hm2
  have hs := sig_bounds h.natAbs hm hm2
  have hpow : 4 * sig h.natAbs = h.natAbs * 2 ^ (54 - h.natAbs.log2) := by
    unfold sig
    rw [show 54 - h.natAbs.log2 = (52 - h.natAbs.log2) + 2 by omega, Nat.pow_add, show (2 : Nat) ^ 2 = 4 from rfl]
    generalize 2 ^ (52 - h.natAbs.log2) = q
    rw [Nat.mul_comm 4, Nat.mul_assoc]
  generalize sig h.natAbs = s at *
  generalize hLL : h.natAbs.log2 = L at *
  generalize h.natAbs = m at *
  generalize hB : halfBits h = B at *
  have p52 : (2 : Nat) ^ 52 = 4503599627370496 := by decide
  have p52m : (4503599627370495 : Nat) = 2 ^ 52 - 1 := by rw [p52]
  have p53 : (2 : Nat) ^ 53 = 9007199254740992 := by decide
  rw [p52, p53] at hs
  have hq : B / 4503599627370496 = L + 1022 + (if h < 0 then 2048 else 0) := by rw [hw]; split <;> omega
  refine formatFloat_half (decide (h < 0)) B m s (54 - L) (L + 1022) w (by omega) hpow (by omega) hs.1 hs.2 ?_ ?_ ?_ ?_
  · exact bit_sign B L s h hw hL hs
  · exact bit_exp B L s h hw hL hs
  · exact bit_frac B L s h hw hL hs
  · exact bit_top s hs
set_option maxRecDepth 100000 in
set_option maxHeartbeats 1600000 in
theorem short_zero (b : Nat) (x : Int) (w : World) :
    Calls Try.prog 22 #[.pointer (some ⟨b, 0, none⟩), .int .u64 0, .int .i64 x, .agg #[.int .i64 52, .int .i64 11, .int .i64 (-1023)]] w fun e w' => e = .returned (.pointer (some ⟨b, 0, none⟩)) ∧ Below w.heap.size w w' := by
  go_enter Try.func22, Try.ntmps22
  go_wp2_with fail
  go_ret
  exact ⟨rfl, (Below.refl _ w).alloc (Nat.le_refl _) _⟩
set_option maxRecDepth 100000 in
set_option maxHeartbeats 3200000 in
theorem formatFloat_zero (w : World) :
    Calls Try.prog 15 #[.float .f64 0, .int .u8 102, .int .i64 (-1), .int .i64 64] w fun e w' => e = .returned (.string (textB [48])) ∧ Below w.heap.size w w' := by
  have hx := fun W => f64bits_run 0 W
  simp only [Int.ofNat_zero, Int.natCast_zero] at hx
  have hbE : bits .and .i64 0 2047 = 0 := by decide
  have hbM : bits .and .u64 0 4503599627370495 = 0 := by decide
  go_enter Try.func15, Try.ntmps15
  go_wp2_with fail
  refine (formOf_any _).mono ?_
  rintro e w1 ⟨rfl, hb1⟩
  have HB1 : Hid (∀ o n, Below w.heap.size w ((w1.alloc o).drewN n)) := Lib.hid fun o n => by
    have h := hb1.alloc hb1.size o
    exact ⟨h.os, h.tape, h.output, h.size, h.block⟩
  have HFF : Hid (∀ n, FormAt ((w1.alloc (.cells #[.int .i64 52, .int .i64 11, .int .i64 (-1023)] 54)).drewN n) w1.heap.size) := Lib.hid fun n => heap_alloc_new w1 _
  have HF1 := Lib.hid hb1.size
  clear hb1
  go_wp2_with fail
  go_quiet (fail)
  go_wp2_with fail
  have HB2 := Lib.hid (HB1.out (.cells #[.int .i64 52, .int .i64 11, .int .i64 (-1023)] 54) nq)
  have HF2 := Lib.hid (HFF.out nq)
  clear HB1 HFF hx hbE hbM
  generalize World.drewN _ nq = w2 at *
  obtain ⟨f0, f1, f2⟩ := HF2.out.cells
  refine (newDecimal_any 0 _ (by decide)).mono ?_
  rintro e w3 ⟨o1, p1, D1, rfl, hD1, hdec1, hb3, hz, -⟩
  obtain ⟨rfl, rfl⟩ := hz rfl
  have HF3 : Hid (FormAt w3 w1.heap.size) := Lib.hid (HF2.out.below hb3)
  have HB3 : Hid (Below w.heap.size w w3) := Lib.hid (HB2.out.trans (hb3.mono HB2.out.size))
  have HQ := Lib.hid (And.intro hdec1 (And.intro hD1 (lt_of_block' HF2.out)))
  have HB2s := Lib.hid HB2.out.size
  clear hdec1 hb3 hD1 HF2 HB2 f0 f1 f2
  obtain ⟨f0, f1, f2⟩ := HF3.out.cells
  have HSH := Lib.hid (shift_nil D1 1074 w3 HQ.out.1 (by decide))
  go_wp2_with fail
  refine HSH.out.mono ?_
  rintro e w4 ⟨rfl, hd4, hg4⟩
  have HF4 : Hid (FormAt w4 w1.heap.size) := Lib.hid (HF3.out.kept hg4 (by have := HQ.out; simp; omega))
  have HB4 : Hid (Below w.heap.size w w4) := Lib.hid (below_gb HB3.out hg4 HB3.out.size (by have := HQ.out; have := HB2s.out; omega))
  have HD4 := Lib.hid hd4
  clear hg4 hd4 HF3 HB3 HQ f0 f1 f2 HSH
  obtain ⟨f0, f1, f2⟩ := HF4.out.cells
  go_wp2_with fail
  refine (short_zero D1 _ w4).mono ?_
  rintro e w5 ⟨rfl, hb5⟩
  have HD5 := Lib.hid (HD4.out.kept hb5)
  have HB5 := Lib.hid (HB4.out.trans (hb5.mono HB4.out.size))
  clear hb5 f0 f1 f2 HB4 HF4 HD4
  obtain ⟨a, c, c0, c1, -⟩ := HD5.out.open
  simp only [List.length_nil] at c0
  go_wp2_with fail
  go_quiet (fail)
  go_wp2_with fail
  refine (text_any D1 [] 0 0 _ (HD5.out.drewN nq) (fun d hd => by simp at hd) (by decide) (by decide)).mono ?_
  rintro e w6 ⟨rfl, hb6⟩
  have HB6 : Hid (Below w.heap.size w w6) := Lib.hid (HB5.out.trans (show Below w.heap.size w5 w6 from (show Below w5.heap.size w5 w6 from ⟨hb6.os, hb6.tape, hb6.output, hb6.size, hb6.block⟩).mono HB5.out.size))
  clear hb6
  go_wp2_with fail
  go_ret
  exact ⟨rfl, HB6.out⟩
theorem formatFloat_any (h : Int) (w : World) (h1 : -9007199254740992 < h) (h2 : h < 9007199254740992) :
    Calls Try.prog 15 #[.float .f64 (halfBits h), .int .u8 102, .int .i64 (-1), .int .i64 64] w fun e w' => e = .returned (.string (textB (numTxt (decide (h < 0)) h.natAbs))) ∧ Below w.heap.size w w' := by
  by_cases h0 : h = 0
  · subst h0
    have e1 : halfBits 0 = 0 := by decide +kernel
    have e2 : numTxt (decide ((0 : Int) < 0)) (0 : Int).natAbs = [48] := by
      unfold numTxt dig
      simp
    rw [e1, e2]
    exact formatFloat_zero w
  · exact formatFloat_nz h w h0 h1 h2
end Go.Proofs.Ytjpcdbopioblaaa
