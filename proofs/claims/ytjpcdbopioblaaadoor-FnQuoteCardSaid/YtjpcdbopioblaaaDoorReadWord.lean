/- The reference's reader of queries: a name, and the first token. -/
import Derived.Test.YtjpcdbopioblaaaDoorReader
namespace Go.Proofs.YtjpcdbopioblaaaDoor
open Go.RowKit

def WordPost (s : ByteArray) (p : Nat) (w : World) (e : Ending) (w' : World) : Prop := ∃ t, e = .returned (.string t) ∧ w' = w ∧ ((h : p < s.size) → s[p].toNat = 34 → t = ⟨#[]⟩)
set_option maxRecDepth 100000 in
set_option maxHeartbeats 800000 in
theorem word_any (rb : Nat) (s k t : ByteArray) (q : Int) (p : Nat) (bad : Bool) (w : World) (h : Rd w rb s q k t bad) (hp : p ≤ s.size) (hs : s.size ≤ 140737488355328) :
    Calls Tryd.prog 61 #[.pointer (some ⟨rb, 0, none⟩), .int .i64 p] w (WordPost s p w) := by
  have c0 := h.c0
  clear h
  unfold WordPost
  go_enter Tryd.func61, Tryd.ntmps61
  go_wp2_with fail
  go_loopg [5] (s.size - p) (fun gk s5 wr => ∃ n : Nat, s5 = .int .i64 n ∧ p ≤ n ∧ n ≤ s.size ∧ gk = s.size - n ∧ wr = w ∧ Hid ((h : p < s.size) → s[p].toNat = 34 → n = p))
  case atStart => exact ⟨p, rfl, Nat.le_refl _, hp, rfl, rfl, Lib.hid fun _ _ => rfl⟩
  case round =>
    obtain ⟨n, rfl, hpn, hn, rfl, rfl, HN⟩ := hrel
    have fin : ((h : p < s.size) → s[p].toNat = 34 → s.extract p n = ⟨#[]⟩) := fun h h2 => by
      rw [HN.out h h2]
      apply ByteArray.ext
      apply Array.toList_inj.1
      simp
    have FIN := Lib.hid fin
    clear fin
    by_cases hlt : n < s.size
    · have hj : (n : Int) < (s.size : Int) := by omega
      by_cases hnp : n = p
      · subst hnp
        have hb : ((n : Int) == (n : Int)) = true := by simp
        go_wp2_with fail
        refine (letter_any s[n] true _).mono ?_
        rintro e w1 ⟨b, rfl, rfl, hl⟩
        have HL := Lib.hid hl
        clear hl
        cases b
        · go_wp2_with fail
          go_ret
          exact ⟨_, rfl, rfl, fun _ _ => rfl⟩
        · go_wp2_with fail
          go_roundg (s.size - (n + 1))
          case measure => omega
          case rel => exact ⟨n + 1, by go_num, by omega, by omega, rfl, rfl, Lib.hid fun _ h2 => by have := HL.out h2; cases this⟩
      · have hb : ((n : Int) == (p : Int)) = false := by simp; omega
        go_wp2_with fail
        refine (letter_any s[n] false _).mono ?_
        rintro e w1 ⟨b, rfl, rfl, hl⟩
        clear hl
        cases b
        · go_wp2_with fail
          go_ret
          exact ⟨_, rfl, rfl, FIN.out⟩
        · go_wp2_with fail
          go_roundg (s.size - (n + 1))
          case measure => omega
          case rel => exact ⟨n + 1, by go_num, by omega, by omega, rfl, rfl, Lib.hid fun h h2 => absurd (HN.out h h2) hnp⟩
    · obtain rfl : n = s.size := by omega
      have hj : ¬ ((s.size : Int) < (s.size : Int)) := by omega
      go_wp2_with fail
      go_ret
      exact ⟨_, rfl, rfl, FIN.out⟩

set_option maxRecDepth 100000 in
set_option maxHeartbeats 800000 in
/-- At the quote that a text begins with. -/
theorem move_start (rb : Nat) (s k t : ByteArray) (bad : Bool) (w : World) (h : Rd w rb s 0 k t bad) (h0 : 0 < s.size) (hq : s[0].toNat = 34) (hs : s.size ≤ 140737488355328) :
    Calls Tryd.prog 42 #[.pointer (some ⟨rb, 0, none⟩)] w fun e w' => e = .returned (.tuple #[]) ∧ Rd w' rb s 1 kStr ⟨#[]⟩ bad ∧ w.grownBy w' (some rb) := by
  have c0 := h.c0
  have c1 := h.c1
  have HG := Lib.hid (World.grownBy.refl w (some rb))
  have H := Lib.hid h
  have HQ := Lib.hid hq
  clear h
  have b1 : (0 : Int) < (s.size : Int) := by omega
  have b2 : ((0 : Int) == (s.size : Int)) = false := by simp; omega
  have hn' : decide ((0 : Int) < (s.size : Int)) = true := by simp; omega
  go_enter Tryd.func42, Tryd.ntmps42
  go_wp2_with fail
  go_loopg [] (0) (fun gk wr => gk = 0 ∧ wr = w)
  case atStart => exact ⟨rfl, rfl⟩
  case round =>
    obtain ⟨rfl, rfl⟩ := hrel
    go_wp2_with fail
    go_quiet (fail)
    have H1 : Hid (Rd (wr.drewN nq) rb s 0 k t bad) := H
    have HG1 : Hid (wr.grownBy (wr.drewN nq) (some rb)) := Lib.hid (gb_drewN HG.out nq)
    have d0 := H1.out.c0
    have d1 := H1.out.c1
    clear c0 c1 H HG
    generalize wr.drewN nq = w1 at *
    go_wp2_with fail
    go_quiet (fail)
    have H2 : Hid (Rd (w1.drewN nq) rb s 0 k t bad) := H1
    have HG2 : Hid (wr.grownBy (w1.drewN nq) (some rb)) := Lib.hid (gb_drewN HG1.out nq)
    clear d0 d1 H1 HG1
    generalize w1.drewN nq = w2 at *
    have d0 := H2.out.c0
    have d1 := H2.out.c1
    go_wp2_with fail
    go_quiet (fail)
    have H3 : Hid (Rd (w2.drewN nq) rb s 0 k t bad) := H2
    have HG3 : Hid (wr.grownBy (w2.drewN nq) (some rb)) := Lib.hid (gb_drewN HG2.out nq)
    clear d0 d1 H2 HG2
    generalize w2.drewN nq = w3 at *
    have d0 := H3.out.c0
    have d1 := H3.out.c1
    trace_state
    go_wp2_with fail
    refine (word_any rb s k t 0 0 bad _ H3.out (by omega) hs).mono ?_
    rintro e w4 ⟨x, rfl, rfl, hx⟩
    obtain rfl := hx h0 HQ.out
    clear hx
    go_wp2_with fail
    refine (word_any rb s k t 0 1 bad _ H3.out (by omega) hs).mono ?_
    rintro e w4 ⟨x, rfl, rfl, hx⟩
    clear hx
    go_wp2_with fail
    refine (take_any rb s k t kStr ⟨#[]⟩ 0 1 bad _ H3.out (by omega) (by omega)).mono ?_
    rintro e w5 ⟨rfl, hr5, hg5⟩
    have H5 := Lib.hid hr5
    have HG5 := Lib.hid (gb_trans HG3.out hg5)
    clear hr5 hg5
    go_wp2_with fail
    go_end0
    exact ⟨rfl, H5.out, HG5.out⟩
end Go.Proofs.YtjpcdbopioblaaaDoor
