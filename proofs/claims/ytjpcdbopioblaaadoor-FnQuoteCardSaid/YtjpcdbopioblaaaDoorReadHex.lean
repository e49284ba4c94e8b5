/- The reference's reader of queries: four digits, and what stands behind a backslash. -/
import Derived.Test.YtjpcdbopioblaaaDoorReader
namespace Go.Proofs.YtjpcdbopioblaaaDoor
open Go.RowKit

/-- The digits 0 0 hi lo, and what is read behind so many of them. -/
def dgX (hi lo i : Nat) : Nat := if i = 2 then hi else if i = 3 then lo else 0
def hvX (hi lo i : Nat) : Nat := if i ≤ 2 then 0 else if i = 3 then hi else 16 * hi + lo
theorem hvX_succ {hi lo i : Nat} (h : i < 4) : hvX hi lo (i + 1) = 16 * hvX hi lo i + dgX hi lo i := by
  unfold hvX dgX
  match i, h with
  | 0, _ => rfl
  | 1, _ => rfl
  | 2, _ => simp
  | 3, _ => simp
theorem hvX_lt {hi lo : Nat} (h : hi < 16) (h2 : lo < 16) (i : Nat) : hvX hi lo i < 256 := by
  unfold hvX
  repeat' split
  all_goals omega
theorem dgX_lt {hi lo : Nat} (h : hi < 16) (h2 : lo < 16) (i : Nat) : dgX hi lo i < 16 := by
  unfold dgX
  repeat' split
  all_goals omega
/-- These four bytes stand from p on. -/
def HexAt (s : ByteArray) (p hi lo : Nat) : Prop := ∀ i, i < 4 → ∃ h : p + i < s.size, s[p + i] = hexL (dgX hi lo i)

theorem or32_all : ((List.range 256).all fun n => decide (¬ (97 ≤ n ∧ n ≤ 102)) || decide (bits .or .i64 (n : Int) 32 = (n : Int))) = true := by decide +kernel
theorem or32 {n : Nat} (h : 97 ≤ n ∧ n ≤ 102) : bits .or .i64 (n : Int) 32 = (n : Int) := by
  have := List.all_eq_true.1 or32_all n (by simp; omega)
  simp only [Bool.or_eq_true, decide_eq_true_eq] at this
  exact this.resolve_left (fun hh => hh h)

set_option maxRecDepth 100000 in
set_option maxHeartbeats 1600000 in
theorem hex_any (rb : Nat) (s k t : ByteArray) (p hi lo : Nat) (w : World) (h : Rd w rb s p k t false) (hh : hi < 16) (hl : lo < 16) (hx : HexAt s p hi lo) (hs : s.size ≤ 140737488355328) :
    Calls Tryd.prog 160 #[.pointer (some ⟨rb, 0, none⟩)] w fun e w' => e = .returned (.int .i64 ((16 * hi + lo : Nat) : Int)) ∧ Rd w' rb s (p + 4 : Nat) k t false ∧ w.grownBy w' (some rb) := by
  have H := Lib.hid h
  have HX := Lib.hid hx
  have HL := Lib.hid (And.intro hh hl)
  clear h hx hh hl
  go_enter Tryd.func160, Tryd.ntmps160
  go_wp2_with fail
  go_loopg [3, 4] (4) (fun gk s3 s4 wr => ∃ i : Nat, s3 = .int .i64 (hvX hi lo i) ∧ s4 = .int .i64 i ∧ i ≤ 4 ∧ gk = 4 - i ∧ Hid (Rd wr rb s (p + i : Nat) k t false) ∧ Hid (w.grownBy wr (some rb)))
  case atStart => exact ⟨0, rfl, rfl, by omega, rfl, H, Lib.hid (World.grownBy.refl w _)⟩
  case round =>
    obtain ⟨i, rfl, rfl, hi4, rfl, HR, HG⟩ := hrel
    clear H
    by_cases hlt : i < 4
    · have hj : (i : Int) < 4 := by omega
      obtain ⟨x1, x2⟩ := HX.out i hlt
      have hv := hvX_lt HL.out.1 HL.out.2 i
      have hd := dgX_lt HL.out.1 HL.out.2 i
      have HV := Lib.hid (hvX_succ (hi := hi) (lo := lo) hlt)
      have HP := Lib.hid (show (p + i : Nat) + 1 = p + (i + 1) from rfl)
      generalize dgX hi lo i = d at *
      generalize hvX hi lo i = v at *
      generalize p + i = m at *
      have HB := Lib.hid (And.intro hv (And.intro hd x2))
      have hv' : (v : Int) < 256 := by omega
      clear hv hd x2
      have c0 := HR.out.c0
      have c1 := HR.out.c1
      have e5 : ((m : Int) == (s.size : Int)) = false := by simp; omega
      have b2 : (m : Int) < (s.size : Int) := by omega
      go_wp2_with fail
      go_quiet (fail)
      have HR1 : Hid (Rd (wr.drewN nq) rb s m k t false) := HR
      have HG1 : Hid (w.grownBy (wr.drewN nq) (some rb)) := Lib.hid (gb_drewN HG.out nq)
      clear c0 c1 HR HG
      generalize wr.drewN nq = w1 at *
      have c0 := HR1.out.c0
      have c1 := HR1.out.c1
      go_wp2_with fail
      go_quiet (fail)
      have HR2 : Hid (Rd (w1.drewN nq) rb s m k t false) := HR1
      have HG2 : Hid (w.grownBy (w1.drewN nq) (some rb)) := Lib.hid (gb_drewN HG1.out nq)
      clear c0 c1 HR1 HG1
      generalize w1.drewN nq = w2 at *
      have c1 := HR2.out.c1
      have f1 := HR2.out.fr 1
      have HR3 := Lib.hid (HR2.out.set1 ((m : Int) + 1))
      have HG3 : Hid (w.grownBy (w2.setCell ⟨rb, 1, none⟩ (.int .i64 ((m : Int) + 1))) (some rb)) := Lib.hid (gb_set HG2.out _ _)
      have hlo : (48 : Int) ≤ (s[m].toNat : Int) := by
        rw [HB.out.2.2]
        rcases Nat.lt_or_ge d 10 with h | h
        · rw [hexL_lo h]; omega
        · rw [hexL_hi (by omega) HB.out.2.1]; omega
      have hw8 : wrap64 (s[m].toNat : Int) = (s[m].toNat : Int) := by have := s[m].toNat_lt; unfold wrap64; omega
      by_cases h10 : d < 10
      · have q1 : (s[m].toNat : Int) ≤ 57 := by rw [HB.out.2.2, hexL_lo h10]; omega
        have HQ := Lib.hid (show s[m].toNat = 48 + d by rw [HB.out.2.2, hexL_lo h10])
        go_wp2_with fail
        go_roundg (4 - (i + 1))
        case measure => omega
        case rel => exact ⟨i + 1, by have h1 := HV.out; have h2 := HQ.out; congr 1; omega, by go_num, by omega, rfl, by have h3 := HR3.out; have h4 := HP.out; rw [← h4]; exact Lib.hid h3, HG3⟩
      · have q1 : ¬ ((s[m].toNat : Int) ≤ 57) := by rw [HB.out.2.2, hexL_hi h10 HB.out.2.1]; omega
        have HQ := Lib.hid (show s[m].toNat = 87 + d by rw [HB.out.2.2, hexL_hi h10 HB.out.2.1])
        have q2 : (97 : Int) ≤ (s[m].toNat : Int) := by rw [HQ.out]; omega
        have q3 : (s[m].toNat : Int) ≤ 102 := by have := HB.out.2.1; rw [HQ.out]; omega
        have q4 : bits .or .i64 (s[m].toNat : Int) 32 = (s[m].toNat : Int) := or32 (by omega)
        go_wp2_with fail
        go_roundg (4 - (i + 1))
        case measure => omega
        case rel => exact ⟨i + 1, by have h1 := HV.out; have h2 := HQ.out; congr 1; omega, by go_num, by omega, rfl, by have h3 := HR3.out; have h4 := HP.out; rw [← h4]; exact Lib.hid h3, HG3⟩
    · obtain rfl : i = 4 := by omega
      go_wp2_with fail
      go_ret
      exact ⟨rfl, HR.out, HG.out⟩
end Go.Proofs.YtjpcdbopioblaaaDoor
