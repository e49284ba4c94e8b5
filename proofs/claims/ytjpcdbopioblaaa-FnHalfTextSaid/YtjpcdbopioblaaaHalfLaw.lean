/- laws.FnHalfText walked: a half's text is its digits. -/
import Derived.Test.YtjpcdbopioblaaaHalfImpl
import Derived.Test.YtjpcdbopioblaaaSpecDigits
namespace Go.Proofs.Ytjpcdbopioblaaa
open Go.RowKit

theorem specDigits_any (n : Nat) (w : World) (hn : n < 9223372036854775808) :
    Calls Try.prog 4 #[.int .i64 n] w fun e w' => e = .returned (.string (digB n)) ∧ w = w' := by
  have HD := Lib.hid (fun wx => digits_any n wx hn)
  have h0 : ¬ (n : Int) < 0 := by omega
  clear hn
  go_enter Try.func4, Try.ntmps4
  go_wp2_with fail
  refine (HD.out _).mono ?_
  rintro e w2 ⟨rfl, rfl⟩
  go_wp2_with fail
  go_ret
  exact ⟨rfl, rfl⟩
theorem numBytes_pos (m : Nat) : (⟨(numBytes (m : Int)).toArray⟩ : ByteArray) = digB (m / 2) ++ (if m % 2 = 1 then ⟨#[46, 53]⟩ else ⟨#[]⟩) := by
  have e : (⟨(numBytes (m : Int)).toArray⟩ : ByteArray) = textB (numTxt (decide ((m : Int) < 0)) (m : Int).natAbs) := rfl
  have e2 : decide ((m : Int) < 0) = false := by simp
  rw [e, e2, Int.natAbs_natCast, numTxt, textB_append]
  congr 1
  split <;> rfl
theorem numBytes_neg (m : Nat) (hm : 0 < m) : (⟨(numBytes (-(m : Int))).toArray⟩ : ByteArray) = ⟨#[45]⟩ ++ digB (m / 2) ++ (if m % 2 = 1 then ⟨#[46, 53]⟩ else ⟨#[]⟩) := by
  have e : (⟨(numBytes (-(m : Int))).toArray⟩ : ByteArray) = textB (numTxt (decide (-(m : Int) < 0)) (-(m : Int)).natAbs) := rfl
  have e2 : decide (-(m : Int) < 0) = true := by simp; omega
  have e3 : (-(m : Int)).natAbs = m := by omega
  rw [e, e2, e3, numTxt, textB_append, textB_append]
  congr 1
  split <;> rfl
theorem digB_size (n : Nat) (hn : n < 9223372036854775808) : (digB n).size ≤ 25 := by
  have := dig_len 19 n (by omega)
  unfold digB
  rw [textB_size]
  simp
  omega

theorem app_nil (x : ByteArray) : x ++ (⟨#[]⟩ : ByteArray) = x := ByteArray.ext (by simp)
theorem nil_app (x : ByteArray) : (⟨#[]⟩ : ByteArray) ++ x = x := ByteArray.ext (by simp)

set_option maxRecDepth 100000 in
set_option maxHeartbeats 1600000 in
theorem fnHalfText_law_at (h : Int) (w : World) : Calls Try.prog 3 #[.int .i64 h] w fun e w' => e = .returned (.bool true) ∧ Below w.heap.size w w' := by
  by_cases hlo : h < -2000000000000000
  · go_enter Try.func3, Try.ntmps3
    go_wp2_with fail
    go_ret
    exact ⟨rfl, Below.refl _ _⟩
  · by_cases hhi : 2000000000000000 < h
    · go_enter Try.func3, Try.ntmps3
      go_wp2_with fail
      go_ret
      exact ⟨rfl, Below.refl _ _⟩
    · have HT := Lib.hid (fun wx => halfText_any h wx (by omega) (by omega))
      by_cases hneg : h < 0
      · obtain ⟨m, rfl⟩ : ∃ m : Nat, h = -(m : Int) := ⟨h.natAbs, by omega⟩
        have hm : 0 < m := by omega
        have HS := Lib.hid (fun wx => specDigits_any (m / 2) wx (by omega))
        rw [show ((m / 2 : Nat) : Int) = (m : Int) / 2 by omega] at HS
        have hds := digB_size (m / 2) (by omega)
        rw [numBytes_neg m hm] at HT
        have hpar : m % 2 = 1 ∧ ((m : Int) % 2 == 1) = true ∨ m % 2 = 0 ∧ ((m : Int) % 2 == 1) = false := by
          rcases Nat.mod_two_eq_zero_or_one m with h | h
          · exact .inr ⟨h, beq_eq_false_iff_ne.2 (by omega)⟩
          · exact .inl ⟨h, beq_iff_eq.2 (by omega)⟩
        generalize digB (m / 2) = tx at *
        have hc1 : ¬ 9223372036854775807 < 1 + tx.size := by omega
        have hc2 : ¬ 9223372036854775807 < 1 + tx.size + 2 := by omega
        have hc3 : ¬ 9223372036854775807 < tx.size := by omega
        have hc4 : ¬ 9223372036854775807 < tx.size + 2 := by omega
        rcases hpar with ⟨hp, hb⟩ | ⟨hp, hb⟩
        · rw [if_pos hp] at HT
          clear hp
          go_enter Try.func3, Try.ntmps3
          go_wp2_with fail
          refine (HS.out _).mono ?_
          rintro e w2 ⟨rfl, rfl⟩
          go_wp2_with fail
          refine (HT.out _).mono ?_
          rintro e w3 ⟨rfl, hb3⟩
          have HB := Lib.hid hb3
          clear hb3
          go_wp2_with fail
          go_ret
          exact ⟨by simp [nil_app, app_nil], HB.out⟩
        · rw [if_neg (by omega), app_nil] at HT
          clear hp
          go_enter Try.func3, Try.ntmps3
          go_wp2_with fail
          refine (HS.out _).mono ?_
          rintro e w2 ⟨rfl, rfl⟩
          go_wp2_with fail
          refine (HT.out _).mono ?_
          rintro e w3 ⟨rfl, hb3⟩
          have HB := Lib.hid hb3
          clear hb3
          go_wp2_with fail
          go_ret
          exact ⟨by simp [nil_app, app_nil], HB.out⟩
      · obtain ⟨m, rfl⟩ : ∃ m : Nat, h = (m : Int) := ⟨h.natAbs, by omega⟩
        have HS := Lib.hid (fun wx => specDigits_any (m / 2) wx (by omega))
        rw [show ((m / 2 : Nat) : Int) = (m : Int) / 2 by omega] at HS
        have hds := digB_size (m / 2) (by omega)
        rw [numBytes_pos m] at HT
        have hpar : m % 2 = 1 ∧ ((m : Int) % 2 == 1) = true ∨ m % 2 = 0 ∧ ((m : Int) % 2 == 1) = false := by
          rcases Nat.mod_two_eq_zero_or_one m with h | h
          · exact .inr ⟨h, beq_eq_false_iff_ne.2 (by omega)⟩
          · exact .inl ⟨h, beq_iff_eq.2 (by omega)⟩
        generalize digB (m / 2) = tx at *
        have hc1 : ¬ 9223372036854775807 < 1 + tx.size := by omega
        have hc2 : ¬ 9223372036854775807 < 1 + tx.size + 2 := by omega
        have hc3 : ¬ 9223372036854775807 < tx.size := by omega
        have hc4 : ¬ 9223372036854775807 < tx.size + 2 := by omega
        rcases hpar with ⟨hp, hb⟩ | ⟨hp, hb⟩
        · rw [if_pos hp] at HT
          clear hp
          go_enter Try.func3, Try.ntmps3
          go_wp2_with fail
          refine (HS.out _).mono ?_
          rintro e w2 ⟨rfl, rfl⟩
          go_wp2_with fail
          refine (HT.out _).mono ?_
          rintro e w3 ⟨rfl, hb3⟩
          have HB := Lib.hid hb3
          clear hb3
          go_wp2_with fail
          go_ret
          exact ⟨by simp [nil_app, app_nil], HB.out⟩
        · rw [if_neg (by omega), app_nil] at HT
          clear hp
          go_enter Try.func3, Try.ntmps3
          go_wp2_with fail
          refine (HS.out _).mono ?_
          rintro e w2 ⟨rfl, rfl⟩
          go_wp2_with fail
          refine (HT.out _).mono ?_
          rintro e w3 ⟨rfl, hb3⟩
          have HB := Lib.hid hb3
          clear hb3
          go_wp2_with fail
          go_ret
          exact ⟨by simp [nil_app, app_nil], HB.out⟩
end Go.Proofs.Ytjpcdbopioblaaa
