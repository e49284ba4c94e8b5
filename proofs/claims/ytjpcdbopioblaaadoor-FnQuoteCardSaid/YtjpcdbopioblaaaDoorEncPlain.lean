/- What the JSON encoder makes of a string, plainly. -/
import Derived.Test.YtjpcdbopioblaaaDoorExt
import Derived.Lib.ValidLaws
import Derived.Lib.Hide
import Derived.Test.YtjpcdbopioblaaaDoorLook
namespace Go.Proofs.YtjpcdbopioblaaaDoor
open Go.RowKit

def hexL (n : Nat) : UInt8 := if n < 10 then UInt8.ofNat (48 + n) else UInt8.ofNat (87 + n)
/-- A byte in a JSON string. -/
def encB (c : UInt8) : List UInt8 :=
  if c = 34 then [92, 34] else if c = 92 then [92, 92] else if c = 8 then [92, 98] else if c = 12 then [92, 102] else if c = 10 then [92, 110] else if c = 13 then [92, 114] else if c = 9 then [92, 116]
  else if c.toNat < 32 ∨ c.toNat = 127 then [92, 117, 48, 48, hexL (c.toNat / 16), hexL (c.toNat % 16)] else [c]
theorem hex_key : ∀ k : Fin 16, (((⟨#[48, 49, 50, 51, 52, 53, 54, 55, 56, 57, 97, 98, 99, 100, 101, 102]⟩ : ByteArray)[k.val]'k.isLt).toNat = (hexL k.val).toNat) := by decide +kernel
theorem hex_at (z : Int) (h : 0 ≤ z ∧ z < 16) (hz) : ((⟨#[48, 49, 50, 51, 52, 53, 54, 55, 56, 57, 97, 98, 99, 100, 101, 102]⟩ : ByteArray)[z.toNat]'hz).toNat = (hexL z.toNat).toNat := hex_key ⟨z.toNat, by omega⟩
theorem and15_all : ((List.range 256).all fun n => decide (bits .and .u8 (n : Int) 15 = ((n % 16 : Nat) : Int))) = true := by decide +kernel
theorem and15 (c : UInt8) : bits .and .u8 (c.toNat : Int) 15 = ((c.toNat % 16 : Nat) : Int) := by
  have := List.all_eq_true.1 and15_all c.toNat (by simpa using c.toNat_lt)
  simpa using this
/-- It stands as it is. -/
def plainB (c : UInt8) : Prop := 32 ≤ c.toNat ∧ c.toNat ≠ 127 ∧ c.toNat ≠ 34 ∧ c.toNat ≠ 92
theorem encB_plain {c : UInt8} (h : plainB c) : encB c = [c] := by
  obtain ⟨h1, h2, h3, h4⟩ := h
  have n : ∀ m : UInt8, c.toNat ≠ m.toNat → c ≠ m := fun m e e2 => e (by rw [e2])
  unfold encB
  rw [if_neg (n 34 h3), if_neg (n 92 h4), if_neg (n 8 (by intro e; rw [e] at h1; exact absurd h1 (by decide))), if_neg (n 12 (by intro e; rw [e] at h1; exact absurd h1 (by decide))), if_neg (n 10 (by intro e; rw [e] at h1; exact absurd h1 (by decide))),
    if_neg (n 13 (by intro e; rw [e] at h1; exact absurd h1 (by decide))), if_neg (n 9 (by intro e; rw [e] at h1; exact absurd h1 (by decide))), if_neg (by omega)]
theorem encB_ctl (c : UInt8) (h : c.toNat < 32 ∨ c.toNat = 127) (n1 : c.toNat ≠ 34) (n2 : c.toNat ≠ 92) (n3 : c.toNat ≠ 8) (n4 : c.toNat ≠ 12) (n5 : c.toNat ≠ 10) (n6 : c.toNat ≠ 13) (n7 : c.toNat ≠ 9) : encB c = [92, 117, 48, 48] ++ [hexL (c.toNat / 16)] ++ [hexL (c.toNat % 16)] := by
  have n : ∀ m : UInt8, c.toNat ≠ m.toNat → c ≠ m := fun m e e2 => e (by rw [e2])
  unfold encB
  rw [if_neg (n 34 n1), if_neg (n 92 n2), if_neg (n 8 n3), if_neg (n 12 n4), if_neg (n 10 n5), if_neg (n 13 n6), if_neg (n 9 n7), if_pos h]
  rfl
theorem enc_plain {l : List UInt8} (h : ∀ c ∈ l, plainB c) : l.flatMap encB = l := by
  induction l with
  | nil => rfl
  | cons c l ih => rw [List.flatMap_cons, encB_plain (h c (by simp)), ih (fun d hd => h d (by simp [hd]))]; rfl

theorem lead_all : ((List.range 256).all fun b => !(Lib.firstT b % 8 == 2 || Lib.firstT b % 8 == 3 || Lib.firstT b % 8 == 4) || decide (128 ≤ Lib.accLo (Lib.firstT b / 16))) = true := by decide +kernel
theorem lead_lo (b : Nat) (h : b < 256) : Lib.firstT b % 8 = 2 ∨ Lib.firstT b % 8 = 3 ∨ Lib.firstT b % 8 = 4 → 128 ≤ Lib.accLo (Lib.firstT b / 16) := by
  have h1 := List.all_eq_true.1 lead_all b (by simpa using h)
  intro h2
  simp only [Bool.or_eq_true, Bool.not_eq_true', decide_eq_true_eq] at h1
  rcases h1 with h1 | h1
  · simp only [Bool.or_eq_false_iff, beq_eq_false_iff_ne] at h1; omega
  · exact h1

/-- Of a valid text that begins with a byte from 128 on the first so many bytes are from 128 on, and the rest is valid. -/
theorem lead_run (l : List UInt8) (hne : l ≠ []) (h0 : 128 ≤ (l.getD 0 0).toNat) (hv : Lib.validD l = true) :
    ∃ k, 2 ≤ k ∧ k ≤ l.length ∧ (Lib.decodeL l).2 = k ∧ ¬ ((Lib.decodeL l).1 = 65533 ∧ (Lib.decodeL l).2 = 1) ∧ Lib.validD (l.drop k) = true ∧ ∀ c ∈ l.take k, 128 ≤ c.toNat := by
  have hstep := Lib.validD_step l hne
  have hlead := Lib.validD_lead l hne h0
  have hl : 0 < l.length := List.length_pos_iff.2 hne
  rw [hv] at hstep hlead
  have hn : ¬ ((Lib.decodeL l).1 = 65533 ∧ (Lib.decodeL l).2 = 1) := fun h => by rw [if_pos h] at hstep; cases hstep
  rw [if_neg hn] at hstep
  rcases Lib.check_decode l.length (l.getD 0 0).toNat (l.getD 1 0).toNat (l.getD 2 0).toNat (l.getD 3 0).toNat hl h0 (l.getD 0 0).toNat_lt (l.getD 1 0).toNat_lt (l.getD 2 0).toNat_lt (l.getD 3 0).toNat_lt with ⟨hc, hd⟩ | ⟨k, hk, hc, hd⟩
  · rw [hc] at hlead; cases hlead
  · rw [← Lib.decodeL_N] at hd
    refine ⟨k, hk, ?_, hd, hn, by rw [hd] at hstep; exact hstep.symm, ?_⟩
    · clear hstep hlead hd hn
      unfold Lib.checkN at hc
      repeat' split at hc
      all_goals first | (cases hc; done) | (injection hc with hc; omega)
    · have lo := lead_lo (l.getD 0 0).toNat (l.getD 0 0).toNat_lt
      have hb : ∀ j, j < k → 128 ≤ (l.getD j 0).toNat := by
        unfold Lib.checkN at hc
        intro j hj
        repeat' split at hc
        all_goals first | (cases hc; done) | skip
        all_goals
          injection hc with hc
          match j, hj with
          | 0, _ => exact h0
          | 1, _ => omega
          | 2, _ => omega
          | 3, _ => omega
          | j + 4, hj => omega
      intro c hc2
      obtain ⟨j, hj, rfl⟩ := List.mem_iff_getElem.1 hc2
      simp only [List.length_take] at hj
      have := hb j (by omega)
      rw [List.getElem_take]
      rw [List.getD_eq_getElem?_getD, List.getElem?_eq_getElem (by omega)] at this
      exact this
theorem dec_at (s : ByteArray) (i : Nat) (hi : i < s.size) (h : 128 ≤ s[i].toNat) (hv : Lib.validD (s.data.toList.drop i) = true) :
    ∃ r k : Nat, Lib.decodeGo (s.extract i s.size) = (r, k) ∧ 2 ≤ k ∧ i + k ≤ s.size ∧ Lib.validD ((s.data.toList.drop i).drop k) = true ∧ ∀ c ∈ (s.data.toList.drop i).take k, 128 ≤ c.toNat := by
  have hi' : i < s.data.toList.length := by simpa using hi
  have e0 : (s.data.toList.drop i).getD 0 0 = s[i] := by
    rw [List.drop_eq_getElem_cons hi']; rfl
  obtain ⟨k, h2, hk, hd, hn, hv', hc⟩ := lead_run (s.data.toList.drop i) (by intro e; have := congrArg List.length e; rw [List.length_drop, List.length_nil] at this; omega) (by rw [e0]; exact h) hv
  rw [List.length_drop] at hk
  have hs : s.data.toList.length = s.size := Array.length_toList
  refine ⟨(Lib.decodeL (s.data.toList.drop i)).1, k, ?_, h2, by omega, hv', hc⟩
  have e1 : s.extract i s.size = ⟨(s.data.toList.drop i).toArray⟩ := by
    apply ByteArray.ext
    apply Array.toList_inj.1
    rw [ByteArray.data_extract, Array.toList_extract, List.extract_eq_drop_take', List.take_of_length_le (by omega)]
  rw [e1, ← hd]
  unfold Lib.decodeGo
  rw [if_neg (by show ¬ (List.toArray _).size = 0; rw [List.size_toArray, List.length_drop]; omega)]
  rfl
end Go.Proofs.YtjpcdbopioblaaaDoor
