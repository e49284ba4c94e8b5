/- Small functions of the reference and of the thin package walked: Fit, zzFits1, zzFits2, Type. -/
import Derived.Test.YtjpcdbopioblaaaDoorFit
import Derived.Deep.Light
namespace Go.Proofs.YtjpcdbopioblaaaDoor
open Go.RowKit

/-- Fit answers, and what it answers yes to is good. -/
def FitPost (x : RV) (w : World) (e : Ending) (w' : World) : Prop :=
  ∃ b, e = .returned (.bool b) ∧ Below w.heap.size w w' ∧ (b = true → x.Good ∧ x.nodes ≤ 400 ∧ x.bytes ≤ 2000)

set_option maxHeartbeats 400000 in
theorem fit_any (x : RV) (v : Value) (w : World) (hT : Tabs w) (hr : x.Rep w v) : Calls Tryd.prog 11 #[v] w (FitPost x w) := by
  obtain ⟨k, h, t, l, ks, vs⟩ := x
  have hr0 := Lib.hid hr
  unfold RV.Rep at hr
  obtain ⟨al, cl, ak, ck, av, cv, rfl, hk, hh, ht, hll, hlk, hlv, hrl, hrk, hrv⟩ := hr
  clear hrl hrk hrv
  have HT := Lib.hid hT
  clear hT
  go_enter Tryd.func11, Tryd.ntmps11
  go_wp2_with fail
  refine (value_any w HT.out (w.heap.size + 1) (by omega) _ _ _ 0 0 0 false _ (Nat.le_refl _) (((Below.refl _ w).alloc (Nat.le_refl _) _).alloc (by simp) _) (by unfold Lk; exact (by simpa using heap_alloc_new (w.alloc _) _)) hr0.out (by omega) (by omega) (by omega) (by omega) (fun _ => by omega) (by omega) (by omega)).mono ?_
  rintro e w1 ⟨p', b', bad', rfl, hl, hg, p0, p1, b0, b1, hq⟩
  have HQ := Lib.hid hq
  have HB : Hid (Below w.heap.size w w1) := below_gb (((Below.refl _ w).alloc (Nat.le_refl _) _).alloc (by simp) _) hg (by simp; omega) (by omega)
  have k2 := hl.c2
  clear hq hl hg
  go_wp2_with fail
  go_ret
  refine ⟨_, rfl, HB.out, fun hb => ?_⟩
  have hb' : bad' = false := by simpa using hb
  obtain ⟨_, q1, q2, q3, q4, q5⟩ := HQ.out hb'
  exact ⟨q3, by omega, by omega⟩

/-- The keys of a value are looked at for their lengths alone. -/
theorem fits2_any (ks : List ByteArray) (a : Option Addr) (cap : Nat) (w : World) (hr : KeysAt w a 0 ks) (hk : ks.length ≤ reachN) :
    Calls Tryd.prog 35 #[.slice a ks.length cap] w fun e w' => (∃ b, e = .returned (.bool b)) ∧ w = w' := by
  have HR := Lib.hid hr
  clear hr
  unfold reachN at hk
  go_enter Tryd.func35, Tryd.ntmps35
  go_wp2_with fail
  · go_ret
    exact ⟨⟨_, rfl⟩, rfl⟩
  · go_loopg [4, 10] (ks.length) (fun gk s4 s10 wr => w = wr ∧ (∃ u : Value, s4 = u) ∧ ∃ i : Nat, s10 = .int .i64 i ∧ i ≤ ks.length ∧ gk = ks.length - i)
    case atStart => exact ⟨rfl, ⟨_, rfl⟩, 0, rfl, Nat.zero_le _, rfl⟩
    case round =>
      obtain ⟨rfl, ⟨u, rfl⟩, i, rfl, hi, rfl⟩ := hrel
      by_cases hlt : i < ks.length
      · obtain ⟨kb, ko, rfl, hks, g0⟩ := HR.out.get i hlt
        simp only [Nat.zero_add] at g0
        obtain ⟨key, hkey⟩ : ∃ key, ks[i] = key := ⟨_, rfl⟩
        rw [hkey] at g0 hks
        clear hkey
        unfold reachN at hks
        go_wp2_with fail
        · go_ret
          exact ⟨⟨_, rfl⟩, rfl⟩
        · go_roundg (ks.length - (i + 1))
          case measure => omega
          case rel => exact ⟨rfl, ⟨_, rfl⟩, i + 1, by go_num, by omega, rfl⟩
      · go_wp2_with fail
        go_ret
        exact ⟨⟨_, rfl⟩, rfl⟩

def BoolPost (w : World) (e : Ending) (w' : World) : Prop := (∃ b, e = .returned (.bool b)) ∧ Below w.heap.size w w'
set_option maxHeartbeats 400000 in
theorem fits1_any (x : RV) (v : Value) (w : World) (hr : x.Rep w v) : Calls Tryd.prog 10 #[v] w (BoolPost w) := by
  obtain ⟨k, h, t, l, ks, vs⟩ := x
  unfold RV.Rep at hr
  obtain ⟨al, cl, ak, ck, av, cv, rfl, hk, hh, ht, hll, hlk, hlv, hrl, hrk, hrv⟩ := hr
  have HC := Lib.hid (fits2_any ks ak ck _ (hrk.below ((Below.refl _ w).alloc (Nat.le_refl _) (.cells #[.int .i64 k, .int .i64 h, .string t, .slice al l.length cl, .slice ak ks.length ck, .slice av vs.length cv] 26))) hlk)
  clear hrl hrk hrv
  go_enter Tryd.func10, Tryd.ntmps10
  go_wp2_with (go_at_call 35; refine HC.out.mono ?_; rintro e w' ⟨⟨b, rfl⟩, rfl⟩)
  all_goals go_ret
  all_goals exact ⟨⟨_, rfl⟩, (Below.refl _ _).alloc (Nat.le_refl _) _⟩

/-- The name of a kind. -/
def typeName (k : Int) : ByteArray :=
  if k = 0 then ⟨#[110, 117, 108, 108]⟩ else if k = 1 ∨ k = 2 then ⟨#[98, 111, 111, 108, 101, 97, 110]⟩ else if k = 3 then ⟨#[110, 117, 109, 98, 101, 114]⟩ else
  if k = 5 then ⟨#[97, 114, 114, 97, 121]⟩ else if k = 6 then ⟨#[111, 98, 106, 101, 99, 116]⟩ else ⟨#[115, 116, 114, 105, 110, 103]⟩

set_option maxHeartbeats 400000 in
theorem type_any (x : RV) (v : Value) (w : World) (k h : Int) (t : ByteArray) (l : List RV) (ks : List ByteArray) (vs : List RV) (hx : x = .mk k h t l ks vs) (hr : x.Rep w v) :
    Calls Tryd.prog 13 #[v] w fun e w' => e = .returned (.string (typeName k)) ∧ Below w.heap.size w w' := by
  subst hx
  unfold RV.Rep at hr
  obtain ⟨al, cl, ak, ck, av, cv, rfl, hk, hh, ht, hll, hlk, hlv, hrl, hrk, hrv⟩ := hr
  clear hrl hrk hrv
  go_enter Tryd.func13, Tryd.ntmps13
  go_wp2_with fail
  all_goals go_ret
  all_goals refine ⟨?_, (Below.refl _ _).alloc (Nat.le_refl _) _⟩
  all_goals (go_light; simp_all [typeName])
end Go.Proofs.YtjpcdbopioblaaaDoor
