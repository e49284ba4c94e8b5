/- spec.digits walked. -/
import Derived.Test.YtjpcdbopioblaaaFmtFloat
namespace Go.Proofs.Ytjpcdbopioblaaa
open Go.RowKit

theorem enc_ascii (r : Nat) (h : r < 128) : Utf8.encode (r : Int) = textB [r] := by
  have v : Utf8.valid (r : Int) = true := by simp [Utf8.valid]; omega
  refine ByteArray.ext (Array.ext' ?_)
  simp [Utf8.encode, v, h, textB]
def digB (n : Nat) : ByteArray := textB ((dig n).map (48 + ·))
theorem dig_tens (n : Nat) (h : 10 ≤ n) : dig n = dig (n / 10) ++ [n % 10] := by conv => lhs; unfold dig; rw [dif_neg (by omega)]
theorem dig_small (n : Nat) (h : n < 10) : dig n = [n] := by unfold dig; rw [dif_pos h]
set_option maxRecDepth 100000 in
set_option maxHeartbeats 1600000 in
theorem digits_any (n : Nat) (w : World) (hn : n < 9223372036854775808) :
    Calls Try.prog 6 #[.int .i64 n] w fun e w' => e = .returned (.string (digB n)) ∧ w = w' := by
  have hdl := dig_len 19 n (by omega)
  have HDL := Lib.hid hdl
  clear hdl
  go_enter Try.func6, Try.ntmps6
  go_wp2_with fail
  go_loopg [0, 3] n (fun gk s0 s3 wr => w = wr ∧ ∃ rest : List Nat, s0 = .int .i64 gk ∧ s3 = .string (textB (rest.map (48 + ·))) ∧ gk ≤ n ∧ Hid (dig n = dig gk ++ rest))
  case atStart => exact ⟨rfl, [], rfl, rfl, Nat.le_refl _, Lib.hid (by simp)⟩
  case round =>
    obtain ⟨rfl, rest, rfl, rfl, hle, HD⟩ := hrel
    have hr : rest.length ≤ 30 := by have h1 := congrArg List.length HD.out; have := HDL.out; rw [List.length_append] at h1; omega
    have hts : (textB (rest.map (48 + ·))).size = rest.length := by rw [textB_size]; simp
    obtain ⟨tx, htx⟩ : ∃ tx, tx = textB (rest.map (48 + ·)) := ⟨_, rfl⟩
    rw [← htx] at hts ⊢
    have HTX := Lib.hid htx
    clear htx
    by_cases hge : 10 ≤ gk
    · have hj : (10 : Int) ≤ (gk : Int) := by omega
      have he := enc_ascii (48 + gk % 10) (by omega)
      rw [show ((48 + gk % 10 : Nat) : Int) = 48 + (gk : Int) % 10 by omega] at he
      have hds : (textB [48 + gk % 10]).size = 1 := textB_size _
      obtain ⟨dx, hdx⟩ : ∃ dx, dx = textB [48 + gk % 10] := ⟨_, rfl⟩
      rw [← hdx] at he hds
      have HDX := Lib.hid hdx
      clear hdx
      have hcc : ¬ 9223372036854775807 < dx.size + tx.size := by omega
      clear hts hds
      go_wp2_with fail
      go_roundg (gk / 10)
      case measure => omega
      case rel => exact ⟨rfl, (gk % 10) :: rest, by simp, by rw [HDX.out, HTX.out, ← textB_append]; rfl, by omega, Lib.hid (by rw [HD.out, dig_tens gk hge, List.append_assoc]; rfl)⟩
    · have hj : ¬ (10 : Int) ≤ (gk : Int) := by omega
      have he := enc_ascii (48 + gk) (by omega)
      rw [show ((48 + gk : Nat) : Int) = 48 + (gk : Int) by omega] at he
      have hds : (textB [48 + gk]).size = 1 := textB_size _
      obtain ⟨dx, hdx⟩ : ∃ dx, dx = textB [48 + gk] := ⟨_, rfl⟩
      rw [← hdx] at he hds
      have HDX := Lib.hid hdx
      clear hdx
      have hcc : ¬ 9223372036854775807 < dx.size + tx.size := by omega
      clear hts hds
      go_wp2_with fail
      go_ret
      refine ⟨?_, rfl⟩
      unfold digB
      rw [HD.out, dig_small gk (by omega), List.map_append, textB_append, HTX.out, HDX.out]
      rfl
end Go.Proofs.Ytjpcdbopioblaaa
