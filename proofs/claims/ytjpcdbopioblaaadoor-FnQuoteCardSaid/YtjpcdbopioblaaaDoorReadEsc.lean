/- The reference's reader of queries: what stands behind a backslash. -/
import Derived.Test.YtjpcdbopioblaaaDoorReadHex
namespace Go.Proofs.YtjpcdbopioblaaaDoor
open Go.RowKit

/-- One byte is read. -/
def EscPost (rb : Nat) (s k t : ByteArray) (m : Nat) (c : UInt8) (w : World) (e : Ending) (w' : World) : Prop := e = .returned (.string ⟨#[c]⟩) ∧ Rd w' rb s m k t false ∧ w.grownBy w' (some rb)
theorem enc_ascii_all : ((List.range 128).all fun n => decide ((Utf8.encode (n : Int)).data.toList = [UInt8.ofNat n])) = true := by decide +kernel
theorem enc_ascii (c : UInt8) (h : c.toNat < 128) : Utf8.encode (c.toNat : Int) = ⟨#[c]⟩ := by
  have h1 := of_decide_eq_true (List.all_eq_true.1 enc_ascii_all c.toNat (by simpa using h))
  apply ByteArray.ext
  apply Array.toList_inj.1
  rw [h1]
  simp

set_option maxRecDepth 100000 in
set_option maxHeartbeats 1600000 in
theorem esc_34 (rb : Nat) (s k t : ByteArray) (m : Nat) (w : World) (h : Rd w rb s m k t false) (hm : m < s.size) (hd : s[m].toNat = 34) (hs : s.size ≤ 140737488355328) :
    Calls Tryd.prog 148 #[.pointer (some ⟨rb, 0, none⟩)] w (EscPost rb s k t (m + 1) 34 w) := by
  have c0 := h.c0
  have c1 := h.c1
  have HR0 := Lib.hid h
  have HG0 := Lib.hid (World.grownBy.refl w (some rb))
  clear h
  have e5 : ((m : Int) == (s.size : Int)) = false := by simp; omega
  have b2 : (m : Int) < (s.size : Int) := by omega
  unfold EscPost
  go_enter Tryd.func148, Tryd.ntmps148
  go_wp2_with fail
  go_quiet (fail)
  have HR1 : Hid (Rd (w.drewN nq) rb s m k t false) := HR0
  have HG1 : Hid (w.grownBy (w.drewN nq) (some rb)) := Lib.hid (gb_drewN HG0.out nq)
  clear c0 c1 HR0 HG0
  generalize hw1 : w.drewN nq = w1 at HR1 HG1 ⊢
  clear hw1
  have c0 := HR1.out.c0
  have c1 := HR1.out.c1
  go_wp2_with fail
  go_quiet (fail)
  have HR2 : Hid (Rd (w1.drewN nq) rb s m k t false) := HR1
  have HG2 : Hid (w.grownBy (w1.drewN nq) (some rb)) := Lib.hid (gb_drewN HG1.out nq)
  clear c0 c1 HR1 HG1
  generalize w1.drewN nq = w2 at *
  have c1 := HR2.out.c1
  have f1 := HR2.out.fr 1
  have HR3 := Lib.hid (HR2.out.set1 ((m : Int) + 1))
  have HG3 : Hid (w.grownBy (w2.setCell ⟨rb, 1, none⟩ (.int .i64 ((m : Int) + 1))) (some rb)) := Lib.hid (gb_set HG2.out _ _)
  have d0 := HR3.out.c0
  have d1 := HR3.out.c1
  have hx : s.extract m (m + 1) = ⟨#[34]⟩ := by rw [ba_one s m hm, show s[m] = 34 from UInt8.toNat_inj.1 hd]
  have hz : ((m : Int) + 1).toNat = m + 1 := by omega
  have hz1 : (m : Int) ≤ (m : Int) + 1 := by omega
  have hz2 : (m : Int) + 1 ≤ (s.size : Int) := by omega
  have hz3 : (0 : Int) ≤ (m : Int) + 1 := by omega
  go_wp2_with fail
  go_quiet (fail)
  have HR4 : Hid (Rd ((w2.setCell ⟨rb, 1, none⟩ (.int .i64 ((m : Int) + 1))).drewN nq) rb s (m + 1 : Nat) k t false) := HR3
  have HG4 := Lib.hid (gb_drewN HG3.out nq)
  clear c1 f1 d0 d1 HR3 HG3
  go_wp2_with fail
  go_ret
  exact ⟨rfl, HR4.out, HG4.out⟩

set_option maxRecDepth 100000 in
set_option maxHeartbeats 1600000 in
theorem esc_92 (rb : Nat) (s k t : ByteArray) (m : Nat) (w : World) (h : Rd w rb s m k t false) (hm : m < s.size) (hd : s[m].toNat = 92) (hs : s.size ≤ 140737488355328) :
    Calls Tryd.prog 148 #[.pointer (some ⟨rb, 0, none⟩)] w (EscPost rb s k t (m + 1) 92 w) := by
  have c0 := h.c0
  have c1 := h.c1
  have HR0 := Lib.hid h
  have HG0 := Lib.hid (World.grownBy.refl w (some rb))
  clear h
  have e5 : ((m : Int) == (s.size : Int)) = false := by simp; omega
  have b2 : (m : Int) < (s.size : Int) := by omega
  unfold EscPost
  go_enter Tryd.func148, Tryd.ntmps148
  go_wp2_with fail
  go_quiet (fail)
  have HR1 : Hid (Rd (w.drewN nq) rb s m k t false) := HR0
  have HG1 : Hid (w.grownBy (w.drewN nq) (some rb)) := Lib.hid (gb_drewN HG0.out nq)
  clear c0 c1 HR0 HG0
  generalize hw1 : w.drewN nq = w1 at HR1 HG1 ⊢
  clear hw1
  have c0 := HR1.out.c0
  have c1 := HR1.out.c1
  go_wp2_with fail
  go_quiet (fail)
  have HR2 : Hid (Rd (w1.drewN nq) rb s m k t false) := HR1
  have HG2 : Hid (w.grownBy (w1.drewN nq) (some rb)) := Lib.hid (gb_drewN HG1.out nq)
  clear c0 c1 HR1 HG1
  generalize w1.drewN nq = w2 at *
  have c1 := HR2.out.c1
  have f1 := HR2.out.fr 1
  have HR3 := Lib.hid (HR2.out.set1 ((m : Int) + 1))
  have HG3 : Hid (w.grownBy (w2.setCell ⟨rb, 1, none⟩ (.int .i64 ((m : Int) + 1))) (some rb)) := Lib.hid (gb_set HG2.out _ _)
  have d0 := HR3.out.c0
  have d1 := HR3.out.c1
  have hx : s.extract m (m + 1) = ⟨#[92]⟩ := by rw [ba_one s m hm, show s[m] = 92 from UInt8.toNat_inj.1 hd]
  have hz : ((m : Int) + 1).toNat = m + 1 := by omega
  have hz1 : (m : Int) ≤ (m : Int) + 1 := by omega
  have hz2 : (m : Int) + 1 ≤ (s.size : Int) := by omega
  have hz3 : (0 : Int) ≤ (m : Int) + 1 := by omega
  go_wp2_with fail
  go_quiet (fail)
  have HR4 : Hid (Rd ((w2.setCell ⟨rb, 1, none⟩ (.int .i64 ((m : Int) + 1))).drewN nq) rb s (m + 1 : Nat) k t false) := HR3
  have HG4 := Lib.hid (gb_drewN HG3.out nq)
  clear c1 f1 d0 d1 HR3 HG3
  go_wp2_with fail
  go_ret
  exact ⟨rfl, HR4.out, HG4.out⟩

set_option maxRecDepth 100000 in
set_option maxHeartbeats 1600000 in
theorem esc_98 (rb : Nat) (s k t : ByteArray) (m : Nat) (w : World) (h : Rd w rb s m k t false) (hm : m < s.size) (hd : s[m].toNat = 98) (hs : s.size ≤ 140737488355328) :
    Calls Tryd.prog 148 #[.pointer (some ⟨rb, 0, none⟩)] w (EscPost rb s k t (m + 1) 8 w) := by
  have c0 := h.c0
  have c1 := h.c1
  have HR0 := Lib.hid h
  have HG0 := Lib.hid (World.grownBy.refl w (some rb))
  clear h
  have e5 : ((m : Int) == (s.size : Int)) = false := by simp; omega
  have b2 : (m : Int) < (s.size : Int) := by omega
  unfold EscPost
  go_enter Tryd.func148, Tryd.ntmps148
  go_wp2_with fail
  go_quiet (fail)
  have HR1 : Hid (Rd (w.drewN nq) rb s m k t false) := HR0
  have HG1 : Hid (w.grownBy (w.drewN nq) (some rb)) := Lib.hid (gb_drewN HG0.out nq)
  clear c0 c1 HR0 HG0
  generalize hw1 : w.drewN nq = w1 at HR1 HG1 ⊢
  clear hw1
  have c0 := HR1.out.c0
  have c1 := HR1.out.c1
  go_wp2_with fail
  go_quiet (fail)
  have HR2 : Hid (Rd (w1.drewN nq) rb s m k t false) := HR1
  have HG2 : Hid (w.grownBy (w1.drewN nq) (some rb)) := Lib.hid (gb_drewN HG1.out nq)
  clear c0 c1 HR1 HG1
  generalize w1.drewN nq = w2 at *
  have c1 := HR2.out.c1
  have f1 := HR2.out.fr 1
  have HR3 := Lib.hid (HR2.out.set1 ((m : Int) + 1))
  have HG3 : Hid (w.grownBy (w2.setCell ⟨rb, 1, none⟩ (.int .i64 ((m : Int) + 1))) (some rb)) := Lib.hid (gb_set HG2.out _ _)
  have d0 := HR3.out.c0
  have d1 := HR3.out.c1
  go_wp2_with fail
  go_ret
  exact ⟨rfl, HR3.out, HG3.out⟩

set_option maxRecDepth 100000 in
set_option maxHeartbeats 1600000 in
theorem esc_102 (rb : Nat) (s k t : ByteArray) (m : Nat) (w : World) (h : Rd w rb s m k t false) (hm : m < s.size) (hd : s[m].toNat = 102) (hs : s.size ≤ 140737488355328) :
    Calls Tryd.prog 148 #[.pointer (some ⟨rb, 0, none⟩)] w (EscPost rb s k t (m + 1) 12 w) := by
  have c0 := h.c0
  have c1 := h.c1
  have HR0 := Lib.hid h
  have HG0 := Lib.hid (World.grownBy.refl w (some rb))
  clear h
  have e5 : ((m : Int) == (s.size : Int)) = false := by simp; omega
  have b2 : (m : Int) < (s.size : Int) := by omega
  unfold EscPost
  go_enter Tryd.func148, Tryd.ntmps148
  go_wp2_with fail
  go_quiet (fail)
  have HR1 : Hid (Rd (w.drewN nq) rb s m k t false) := HR0
  have HG1 : Hid (w.grownBy (w.drewN nq) (some rb)) := Lib.hid (gb_drewN HG0.out nq)
  clear c0 c1 HR0 HG0
  generalize hw1 : w.drewN nq = w1 at HR1 HG1 ⊢
  clear hw1
  have c0 := HR1.out.c0
  have c1 := HR1.out.c1
  go_wp2_with fail
  go_quiet (fail)
  have HR2 : Hid (Rd (w1.drewN nq) rb s m k t false) := HR1
  have HG2 : Hid (w.grownBy (w1.drewN nq) (some rb)) := Lib.hid (gb_drewN HG1.out nq)
  clear c0 c1 HR1 HG1
  generalize w1.drewN nq = w2 at *
  have c1 := HR2.out.c1
  have f1 := HR2.out.fr 1
  have HR3 := Lib.hid (HR2.out.set1 ((m : Int) + 1))
  have HG3 : Hid (w.grownBy (w2.setCell ⟨rb, 1, none⟩ (.int .i64 ((m : Int) + 1))) (some rb)) := Lib.hid (gb_set HG2.out _ _)
  have d0 := HR3.out.c0
  have d1 := HR3.out.c1
  go_wp2_with fail
  go_ret
  exact ⟨rfl, HR3.out, HG3.out⟩

set_option maxRecDepth 100000 in
set_option maxHeartbeats 1600000 in
theorem esc_110 (rb : Nat) (s k t : ByteArray) (m : Nat) (w : World) (h : Rd w rb s m k t false) (hm : m < s.size) (hd : s[m].toNat = 110) (hs : s.size ≤ 140737488355328) :
    Calls Tryd.prog 148 #[.pointer (some ⟨rb, 0, none⟩)] w (EscPost rb s k t (m + 1) 10 w) := by
  have c0 := h.c0
  have c1 := h.c1
  have HR0 := Lib.hid h
  have HG0 := Lib.hid (World.grownBy.refl w (some rb))
  clear h
  have e5 : ((m : Int) == (s.size : Int)) = false := by simp; omega
  have b2 : (m : Int) < (s.size : Int) := by omega
  unfold EscPost
  go_enter Tryd.func148, Tryd.ntmps148
  go_wp2_with fail
  go_quiet (fail)
  have HR1 : Hid (Rd (w.drewN nq) rb s m k t false) := HR0
  have HG1 : Hid (w.grownBy (w.drewN nq) (some rb)) := Lib.hid (gb_drewN HG0.out nq)
  clear c0 c1 HR0 HG0
  generalize hw1 : w.drewN nq = w1 at HR1 HG1 ⊢
  clear hw1
  have c0 := HR1.out.c0
  have c1 := HR1.out.c1
  go_wp2_with fail
  go_quiet (fail)
  have HR2 : Hid (Rd (w1.drewN nq) rb s m k t false) := HR1
  have HG2 : Hid (w.grownBy (w1.drewN nq) (some rb)) := Lib.hid (gb_drewN HG1.out nq)
  clear c0 c1 HR1 HG1
  generalize w1.drewN nq = w2 at *
  have c1 := HR2.out.c1
  have f1 := HR2.out.fr 1
  have HR3 := Lib.hid (HR2.out.set1 ((m : Int) + 1))
  have HG3 : Hid (w.grownBy (w2.setCell ⟨rb, 1, none⟩ (.int .i64 ((m : Int) + 1))) (some rb)) := Lib.hid (gb_set HG2.out _ _)
  have d0 := HR3.out.c0
  have d1 := HR3.out.c1
  go_wp2_with fail
  go_ret
  exact ⟨rfl, HR3.out, HG3.out⟩

set_option maxRecDepth 100000 in
set_option maxHeartbeats 1600000 in
theorem esc_114 (rb : Nat) (s k t : ByteArray) (m : Nat) (w : World) (h : Rd w rb s m k t false) (hm : m < s.size) (hd : s[m].toNat = 114) (hs : s.size ≤ 140737488355328) :
    Calls Tryd.prog 148 #[.pointer (some ⟨rb, 0, none⟩)] w (EscPost rb s k t (m + 1) 13 w) := by
  have c0 := h.c0
  have c1 := h.c1
  have HR0 := Lib.hid h
  have HG0 := Lib.hid (World.grownBy.refl w (some rb))
  clear h
  have e5 : ((m : Int) == (s.size : Int)) = false := by simp; omega
  have b2 : (m : Int) < (s.size : Int) := by omega
  unfold EscPost
  go_enter Tryd.func148, Tryd.ntmps148
  go_wp2_with fail
  go_quiet (fail)
  have HR1 : Hid (Rd (w.drewN nq) rb s m k t false) := HR0
  have HG1 : Hid (w.grownBy (w.drewN nq) (some rb)) := Lib.hid (gb_drewN HG0.out nq)
  clear c0 c1 HR0 HG0
  generalize hw1 : w.drewN nq = w1 at HR1 HG1 ⊢
  clear hw1
  have c0 := HR1.out.c0
  have c1 := HR1.out.c1
  go_wp2_with fail
  go_quiet (fail)
  have HR2 : Hid (Rd (w1.drewN nq) rb s m k t false) := HR1
  have HG2 : Hid (w.grownBy (w1.drewN nq) (some rb)) := Lib.hid (gb_drewN HG1.out nq)
  clear c0 c1 HR1 HG1
  generalize w1.drewN nq = w2 at *
  have c1 := HR2.out.c1
  have f1 := HR2.out.fr 1
  have HR3 := Lib.hid (HR2.out.set1 ((m : Int) + 1))
  have HG3 : Hid (w.grownBy (w2.setCell ⟨rb, 1, none⟩ (.int .i64 ((m : Int) + 1))) (some rb)) := Lib.hid (gb_set HG2.out _ _)
  have d0 := HR3.out.c0
  have d1 := HR3.out.c1
  go_wp2_with fail
  go_ret
  exact ⟨rfl, HR3.out, HG3.out⟩

set_option maxRecDepth 100000 in
set_option maxHeartbeats 1600000 in
theorem esc_116 (rb : Nat) (s k t : ByteArray) (m : Nat) (w : World) (h : Rd w rb s m k t false) (hm : m < s.size) (hd : s[m].toNat = 116) (hs : s.size ≤ 140737488355328) :
    Calls Tryd.prog 148 #[.pointer (some ⟨rb, 0, none⟩)] w (EscPost rb s k t (m + 1) 9 w) := by
  have c0 := h.c0
  have c1 := h.c1
  have HR0 := Lib.hid h
  have HG0 := Lib.hid (World.grownBy.refl w (some rb))
  clear h
  have e5 : ((m : Int) == (s.size : Int)) = false := by simp; omega
  have b2 : (m : Int) < (s.size : Int) := by omega
  unfold EscPost
  go_enter Tryd.func148, Tryd.ntmps148
  go_wp2_with fail
  go_quiet (fail)
  have HR1 : Hid (Rd (w.drewN nq) rb s m k t false) := HR0
  have HG1 : Hid (w.grownBy (w.drewN nq) (some rb)) := Lib.hid (gb_drewN HG0.out nq)
  clear c0 c1 HR0 HG0
  generalize hw1 : w.drewN nq = w1 at HR1 HG1 ⊢
  clear hw1
  have c0 := HR1.out.c0
  have c1 := HR1.out.c1
  go_wp2_with fail
  go_quiet (fail)
  have HR2 : Hid (Rd (w1.drewN nq) rb s m k t false) := HR1
  have HG2 : Hid (w.grownBy (w1.drewN nq) (some rb)) := Lib.hid (gb_drewN HG1.out nq)
  clear c0 c1 HR1 HG1
  generalize w1.drewN nq = w2 at *
  have c1 := HR2.out.c1
  have f1 := HR2.out.fr 1
  have HR3 := Lib.hid (HR2.out.set1 ((m : Int) + 1))
  have HG3 : Hid (w.grownBy (w2.setCell ⟨rb, 1, none⟩ (.int .i64 ((m : Int) + 1))) (some rb)) := Lib.hid (gb_set HG2.out _ _)
  have d0 := HR3.out.c0
  have d1 := HR3.out.c1
  go_wp2_with fail
  go_ret
  exact ⟨rfl, HR3.out, HG3.out⟩

set_option maxRecDepth 100000 in
set_option maxHeartbeats 1600000 in
theorem esc_u (rb : Nat) (s k t : ByteArray) (m : Nat) (w : World) (h : Rd w rb s m k t false) (hm : m < s.size) (hd : s[m].toNat = 117) (c : UInt8) (hc : c.toNat < 128) (hx : HexAt s (m + 1) (c.toNat / 16) (c.toNat % 16)) (hs : s.size ≤ 140737488355328) :
    Calls Tryd.prog 148 #[.pointer (some ⟨rb, 0, none⟩)] w (EscPost rb s k t (m + 5) c w) := by
  have c0 := h.c0
  have c1 := h.c1
  have HR0 := Lib.hid h
  have HG0 := Lib.hid (World.grownBy.refl w (some rb))
  clear h
  have e5 : ((m : Int) == (s.size : Int)) = false := by simp; omega
  have b2 : (m : Int) < (s.size : Int) := by omega
  unfold EscPost
  go_enter Tryd.func148, Tryd.ntmps148
  go_wp2_with fail
  go_quiet (fail)
  have HR1 : Hid (Rd (w.drewN nq) rb s m k t false) := HR0
  have HG1 : Hid (w.grownBy (w.drewN nq) (some rb)) := Lib.hid (gb_drewN HG0.out nq)
  clear c0 c1 HR0 HG0
  generalize hw1 : w.drewN nq = w1 at HR1 HG1 ⊢
  clear hw1
  have c0 := HR1.out.c0
  have c1 := HR1.out.c1
  go_wp2_with fail
  go_quiet (fail)
  have HR2 : Hid (Rd (w1.drewN nq) rb s m k t false) := HR1
  have HG2 : Hid (w.grownBy (w1.drewN nq) (some rb)) := Lib.hid (gb_drewN HG1.out nq)
  clear c0 c1 HR1 HG1
  generalize w1.drewN nq = w2 at *
  have c1 := HR2.out.c1
  have f1 := HR2.out.fr 1
  have HR3 := Lib.hid (HR2.out.set1 ((m : Int) + 1))
  have HG3 : Hid (w.grownBy (w2.setCell ⟨rb, 1, none⟩ (.int .i64 ((m : Int) + 1))) (some rb)) := Lib.hid (gb_set HG2.out _ _)
  have d0 := HR3.out.c0
  have d1 := HR3.out.c1
  have HX := Lib.hid fun wx h => hex_any rb s k t (m + 1) (c.toNat / 16) (c.toNat % 16) wx h (by omega) (by omega) hx hs
  clear hx
  go_wp2_with fail
  refine (HX.out _ HR3.out).mono ?_
  rintro e w4 ⟨rfl, hr4, hg4⟩
  have HR4 := Lib.hid hr4
  have HG4 := Lib.hid (gb_trans HG3.out hg4)
  rw [show 16 * (c.toNat / 16) + c.toNat % 16 = c.toNat by omega]
  clear hr4 hg4 c1 f1 d0 d1 HR3 HG3
  have hn : ¬ ((55296 : Int) ≤ (c.toNat : Int)) := by omega
  have hn' : decide ((55296 : Int) ≤ (c.toNat : Int)) = false := by simp; omega
  go_wp2_with fail
  go_quiet (fail)
  have HR5 : Hid (Rd (w4.drewN nq) rb s (m + 1 + 4 : Nat) k t false) := HR4
  have HG5 : Hid (w.grownBy (w4.drewN nq) (some rb)) := Lib.hid (gb_drewN HG4.out nq)
  clear HR4 HG4
  generalize w4.drewN nq = w5 at *
  go_wp2_with fail
  go_ret
  exact ⟨by rw [← enc_ascii c hc]; rfl, HR5.out, HG5.out⟩

/-- Behind a backslash stands what the byte c is written as. -/
theorem escaped_any (rb : Nat) (s k t : ByteArray) (m : Nat) (c : UInt8) (w : World) (h : Rd w rb s m k t false) (hc : ¬ plainB c) (hx : ∀ j (hj : j + 1 < (encB c).length), ∃ hlt : m + j < s.size, s[m + j] = (encB c)[j + 1]) (hs : s.size ≤ 140737488355328) :
    Calls Tryd.prog 148 #[.pointer (some ⟨rb, 0, none⟩)] w (EscPost rb s k t (m + ((encB c).length - 1)) c w) := by
  have byte : ∀ {l : List UInt8}, encB c = l → ∀ j (hj : j + 1 < l.length), ∃ hlt : m + j < s.size, s[m + j] = l[j + 1] := fun e => by subst e; exact hx
  rcases encB_cases c hc with ⟨rfl, e⟩ | ⟨rfl, e⟩ | ⟨rfl, e⟩ | ⟨rfl, e⟩ | ⟨rfl, e⟩ | ⟨rfl, e⟩ | ⟨rfl, e⟩ | ⟨h128, e⟩
  · obtain ⟨hm, hd⟩ := byte e 0 (by decide)
    rw [e]; exact esc_34 rb s k t m w h hm (by rw [show s[m] = _ from hd]; rfl) hs
  · obtain ⟨hm, hd⟩ := byte e 0 (by decide)
    rw [e]; exact esc_92 rb s k t m w h hm (by rw [show s[m] = _ from hd]; rfl) hs
  · obtain ⟨hm, hd⟩ := byte e 0 (by decide)
    rw [e]; exact esc_98 rb s k t m w h hm (by rw [show s[m] = _ from hd]; rfl) hs
  · obtain ⟨hm, hd⟩ := byte e 0 (by decide)
    rw [e]; exact esc_102 rb s k t m w h hm (by rw [show s[m] = _ from hd]; rfl) hs
  · obtain ⟨hm, hd⟩ := byte e 0 (by decide)
    rw [e]; exact esc_110 rb s k t m w h hm (by rw [show s[m] = _ from hd]; rfl) hs
  · obtain ⟨hm, hd⟩ := byte e 0 (by decide)
    rw [e]; exact esc_114 rb s k t m w h hm (by rw [show s[m] = _ from hd]; rfl) hs
  · obtain ⟨hm, hd⟩ := byte e 0 (by decide)
    rw [e]; exact esc_116 rb s k t m w h hm (by rw [show s[m] = _ from hd]; rfl) hs
  · obtain ⟨hm, hd⟩ := byte e 0 (by simp)
    rw [e]
    refine esc_u rb s k t m w h hm (by rw [show s[m] = _ from hd]; rfl) c h128 (fun i hi => ?_) hs
    obtain ⟨hm2, hd2⟩ := byte e (i + 1) (by simp; omega)
    refine ⟨by omega, ?_⟩
    have e2 : m + 1 + i = m + (i + 1) := by omega
    simp only [e2]
    rw [hd2]
    match i, hi with
    | 0, _ => rfl
    | 1, _ => rfl
    | 2, _ => rfl
    | 3, _ => rfl
end Go.Proofs.YtjpcdbopioblaaaDoor
