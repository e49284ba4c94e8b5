/- 'shift' of a decimal walked, for a shift down of at most 59 places; and the decimal 0. -/
import Derived.Test.YtjpcdbopioblaaaDecHalfW
namespace Go.Proofs.Ytjpcdbopioblaaa
open Go.RowKit

set_option maxRecDepth 100000 in
set_option maxHeartbeats 1600000 in
theorem shift_half (b : Nat) (ds : List Nat) (dp k : Nat) (w : World) (h : DecAt w b ds dp) (hd : Digs ds) (hne : 0 < numL ds) (hbig : 2 ^ k ≤ numP ds (dp + 1)) (hk0 : 0 < k) (hk : k ≤ 59) (hl : ds.length ≤ 1000) (hdp : dp ≤ 1000) :
    Calls Try.prog 21 #[.pointer (some ⟨b, 0, none⟩), .int .i64 (-(k : Int))] w (HalfPost b ds dp k w) := by
  have H := Lib.hid (half_any b ds dp k w h hd hne hbig hk hl hdp)
  clear h hd hne hbig
  go_enter Try.func21, Try.ntmps21
  go_wp2_with fail
  go_loopg [1] 0 (fun gk s1 wr => gk = 0 ∧ s1 = .int .i64 (-(k : Int)) ∧ wr = w)
  case atStart => exact ⟨rfl, rfl, rfl⟩
  case round =>
    obtain ⟨rfl, rfl, rfl⟩ := hrel
    go_wp2_with fail
    go_loopg [1] 0 (fun gk s1 wr2 => gk = 0 ∧ s1 = .int .i64 (-(k : Int)) ∧ wr2 = wr)
    case atStart => exact ⟨rfl, rfl, rfl⟩
    case round =>
      obtain ⟨rfl, rfl, rfl⟩ := hrel
      go_wp2_with fail
      have e : - -(k : Int) = (k : Int) := by omega
      refine H.out.mono ?_
      rintro e w' hp
      have HP := Lib.hid hp
      obtain ⟨out, dp', rfl, _⟩ := hp
      go_wp2_with fail
      go_end0
      exact HP.out

set_option maxRecDepth 100000 in
set_option maxHeartbeats 1600000 in
theorem half_nil (b k : Nat) (w : World) (h : DecAt w b [] 0) (hk : k ≤ 59) :
    Calls Try.prog 29 #[.pointer (some ⟨b, 0, none⟩), .int .i64 k] w (fun e w' => e = .returned (.tuple #[]) ∧ DecAt w' b [] 0 ∧ w.grownBy w' (some b)) := by
  have H := Lib.hid h
  obtain ⟨a, c, h0, h1, hcell⟩ := h.open
  have f0 := h.fr 0
  have f1 := h.fr 1
  clear h hcell
  go_enter Try.func29, Try.ntmps29
  go_wp2_with fail
  go_loopg [4, 5] 0 (fun gk s4 s5 wr => gk = 0 ∧ s4 = .int .u64 0 ∧ s5 = .int .i64 0 ∧ wr = w)
  case atStart => exact ⟨rfl, rfl, rfl, rfl⟩
  case round =>
    obtain ⟨rfl, rfl, rfl, rfl⟩ := hrel
    have e0 : ((0 : Int) / 2 ^ k == 0) = true := by simp
    go_wp2_with fail
    refine bodyPost_ret (v := .tuple #[]) (results_none rfl _ _ _) rfl ?_
    refine ⟨rfl, ?_, gb_set (gb_set (World.grownBy.refl wr (some b)) 0 _) 1 _⟩
    exact (H.out.put (ds' := []) (v := .slice none 0 0) ⟨none, 0, rfl, Nat.le_refl _, fun j hj => absurd hj (by simp)⟩ (fun g hg => by simp [Value.ownBlock] at hg)).setDp 0

set_option maxRecDepth 100000 in
set_option maxHeartbeats 1600000 in
theorem shift_nil (b k : Nat) (w : World) (h : DecAt w b [] 0) (hk : k ≤ 2000) :
    Calls Try.prog 21 #[.pointer (some ⟨b, 0, none⟩), .int .i64 (-(k : Int))] w (fun e w' => e = .returned (.tuple #[]) ∧ DecAt w' b [] 0 ∧ w.grownBy w' (some b)) := by
  have H := Lib.hid h
  clear h
  go_enter Try.func21, Try.ntmps21
  go_wp2_with fail
  go_loopg [1] 0 (fun gk s1 wr => gk = 0 ∧ s1 = .int .i64 (-(k : Int)) ∧ wr = w)
  case atStart => exact ⟨rfl, rfl, rfl⟩
  case round =>
    obtain ⟨rfl, rfl, rfl⟩ := hrel
    go_wp2_with fail
    go_loopg [1] k (fun gk s1 wx => ∃ q : Nat, s1 = .int .i64 (-(q : Int)) ∧ gk = q ∧ q ≤ 2000 ∧ Hid (DecAt wx b [] 0) ∧ Hid (wr.grownBy wx (some b)))
    case atStart => exact ⟨k, rfl, rfl, hk, H, Lib.hid (World.grownBy.refl _ _)⟩
    case round =>
      obtain ⟨q, rfl, rfl, hq, HX, HG⟩ := hrel
      by_cases hbig : 59 < gk
      · go_wp2_with fail
        refine (half_nil b 59 _ HX.out (by decide)).mono ?_
        rintro e w' ⟨rfl, hx, hg⟩
        have HX' := Lib.hid hx
        have HG' := Lib.hid (gb_trans HG.out hg)
        clear hx hg
        go_wp2_with fail
        go_roundg (gk - 59)
        case measure => omega
        case rel => exact ⟨gk - 59, by go_num, rfl, by omega, HX', HG'⟩
      · by_cases h0 : gk = 0
        · subst h0
          go_wp2_with fail
          go_end0
          exact ⟨rfl, HX.out, HG.out⟩
        · go_wp2_with fail
          refine (half_nil b gk _ HX.out (by omega)).mono ?_
          rintro e w' ⟨rfl, hx, hg⟩
          have HX' := Lib.hid hx
          have HG' := Lib.hid (gb_trans HG.out hg)
          clear hx hg
          go_wp2_with fail
          go_end0
          exact ⟨rfl, HX'.out, HG'.out⟩
end Go.Proofs.Ytjpcdbopioblaaa
