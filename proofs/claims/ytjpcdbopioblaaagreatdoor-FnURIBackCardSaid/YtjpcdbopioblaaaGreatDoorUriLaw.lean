/- FnURIBack walked: what @uri made of a string @urid makes the string again. -/
import Derived.Test.YtjpcdbopioblaaaGreatDoorUriImpl
namespace Go.Proofs.YtjpcdbopioblaaaGreatDoor
open Go.RowKit

set_option maxRecDepth 100000 in
theorem text_c (t : ByteArray) (al ak av : Option Addr) (an ac m ck q cv : Nat) (w : World) :
    Calls Tryz.prog 20 #[.agg #[.int .i64 4, .int .i64 0, .string t, .slice al an ac, .slice ak m ck, .slice av q cv, .int .i64 0]] w fun e w' => e = .returned (.tuple #[.string t, .bool true]) ∧ Below w.heap.size w w' := by
  have HB := Lib.hid (fun o => (Below.refl w.heap.size w).alloc (Nat.le_refl _) o)
  go_enter Tryz.func20, Tryz.ntmps20
  go_wp2_with fail
  go_region
  all_goals go_wp2_with fail
  all_goals go_ret2
  all_goals exact ⟨rfl, (HB.out _).drew⟩

theorem keep_ascii : ((List.range 256).all fun n => !keepN n || decide (n < 128)) = true := by decide +kernel
theorem enc2_ascii (c d : UInt8) (h : d ∈ enc2 c) : d.toNat < 128 := by
  unfold enc2 at h
  split at h
  · rename_i hk
    simp at h
    subst h
    have h1 := List.all_eq_true.1 keep_ascii d.toNat (by simpa using d.toNat_lt)
    unfold keepB at hk
    rw [hk] at h1
    simpa using h1
  · have hx : ∀ k, k < 16 → (hexU k).toNat < 128 := fun k hk => by
      have h1 := List.all_eq_true.1 hexU_facts k (by simpa using hk)
      simp only [Bool.and_eq_true, decide_eq_true_eq] at h1
      exact h1.2
    simp at h
    rcases h with rfl | rfl | rfl
    · decide
    · exact hx _ (by have := c.toNat_lt; omega)
    · exact hx _ (by omega)
theorem valid_ascii : ∀ l : List UInt8, (∀ c ∈ l, c.toNat < 128) → Lib.validD l = true
  | [], _ => by decide
  | c :: l, h => by rw [Lib.validD_cons _ _ (h c (by simp))]; exact valid_ascii l fun d hd => h d (by simp [hd])
theorem txt2_valid (s : ByteArray) : Lib.validD (txt2 s).data.toList = true := valid_ascii _ fun d hd => by
  have e : (txt2 s).data.toList = s.data.toList.flatMap enc2 := rfl
  rw [e] at hd
  obtain ⟨c, _, hc⟩ := List.mem_flatMap.1 hd
  exact enc2_ascii c d hc

set_option maxRecDepth 100000 in
set_option maxHeartbeats 1600000 in
theorem fnURIBack_law_at {s : ByteArray} {w : World} (hs : s.size ≤ reachN) (hT : Tabs w) (hU : TabU w) :
    Calls Tryz.prog 6 #[.string s] w fun e w' => e = .returned (.bool true) ∧ Below w.heap.size w w' := by
  unfold reachN at hs
  by_cases h1 : s.size ≤ 2147483647
  · by_cases h2 : s.size ≤ 4096
    · have HT := Lib.hid (fun wx (hb : Below w.heap.size w wx) => hU.below hb)
      have HVC := Lib.hid (valid_c s w (by omega) hT)
      have HSM : Hid (s.size ≤ 100000) := Lib.hid (by omega)
      have HZ2 := Lib.hid (txt2_size s)
      have HTV := Lib.hid (txt2_valid s)
      have k1 : ¬ ((2147483647 : Int) < (s.size : Int)) := by omega
      have k2 : ¬ ((4096 : Int) < (s.size : Int)) := by omega
      clear h1 hT hU
      go_enter Tryz.func6, Tryz.ntmps6
      go_wp2_with fail
      refine HVC.out.mono ?_
      rintro e w1 ⟨rfl, hb1⟩
      have HB1 := Lib.hid hb1
      clear hb1 HVC
      cases hv : Lib.validD s.data.toList
      · clear hv
        go_wp2_with fail
        go_ret
        exact ⟨rfl, HB1.out⟩
      · have HV := Lib.hid hv
        clear hv
        go_wp2_with fail
        refine (str_c s _).mono ?_
        rintro e w2 ⟨rfl, hb2⟩
        have HB2 := Lib.hid (HB1.out.trans (hb2.mono HB1.out.size))
        clear hb2 HB1
        go_wp2_with fail
        refine (implFormatURI_any s _ (HT.out _ HB2.out) HSM.out HV.out).mono ?_
        rintro e w3 ⟨r, rfl, hr, hb3⟩
        have HB3 := Lib.hid (HB2.out.trans (hb3.mono HB2.out.size))
        obtain ⟨al, an, ac, ak, m, ck, av, q, cv, rfl⟩ := hr.is.text
        clear hb3 hr HB2
        go_wp2_with fail
        refine (text_c (txt2 s) al ak av an ac m ck q cv _).mono ?_
        rintro e w4 ⟨rfl, hb4⟩
        have HB4 := Lib.hid (HB3.out.trans (hb4.mono HB3.out.size))
        clear hb4 HB3
        go_wp2_with fail
        refine (str_c (txt2 s) _).mono ?_
        rintro e w5 ⟨rfl, hb5⟩
        have HB5 := Lib.hid (HB4.out.trans (hb5.mono HB4.out.size))
        clear hb5 HB4
        go_wp2_with fail
        refine (implFormatURID_any s _ (HT.out _ HB5.out) HSM.out HTV.out).mono ?_
        rintro e w6 ⟨r, rfl, hr, hb6⟩
        have HB6 := Lib.hid (HB5.out.trans (hb6.mono HB5.out.size))
        have HR := Lib.hid hr.is
        have HRH := Lib.hid hr
        clear hb6 hr HB5
        go_wp2_with fail
        refine (str_c s _).mono ?_
        rintro e w7 ⟨rfl, hb7⟩
        have HB7 := Lib.hid (HB6.out.trans (hb7.mono HB6.out.size))
        have HR7 := Lib.hid (HRH.out.same (SameFrom.of_below hb7 _) hb7.size).is
        clear hb7 HB6 HR HRH
        go_wp2_with fail
        refine (given_any (strT s) r _ _ (strT_good HV.out) HR7.out (strT_rep (by have := HSM.out; unfold reachN; omega))).mono ?_
        rintro e w8 ⟨rfl, hb8⟩
        have HB8 := Lib.hid (HB7.out.trans (hb8.mono HB7.out.size))
        clear hb8 HB7
        go_wp2_with fail
        go_ret
        exact ⟨rfl, HB8.out⟩
    · have k1 : ¬ ((2147483647 : Int) < (s.size : Int)) := by omega
      have k2 : (4096 : Int) < (s.size : Int) := by omega
      clear h1 h2 hT hU
      go_enter Tryz.func6, Tryz.ntmps6
      go_wp2_with fail
      go_ret
      exact ⟨rfl, Below.refl _ _⟩
  · have k1 : (2147483647 : Int) < (s.size : Int) := by omega
    clear h1 hT hU
    go_enter Tryz.func6, Tryz.ntmps6
    go_wp2_with fail
    go_ret
    exact ⟨rfl, Below.refl _ _⟩
end Go.Proofs.YtjpcdbopioblaaaGreatDoor
