/- FnReverse walked. -/
import Derived.Test.YtjpcdbopioblaaaGreatDoorSpecRev
import Derived.Deep.RegionHeld3
namespace Go.Proofs.YtjpcdbopioblaaaGreatDoor
open Go.RowKit

theorem one_array (w : World) (l : List RV) (a : Option Addr) (ca : Nat) (hl : l.length ≤ reachN) (hr : RV.RepL w a 0 l) (w2 : World) (hb : Below w.heap.size w w2) :
    RV.RepL (w2.alloc (.cells #[.int .i64 5, .int .i64 0, .string ByteArray.empty, .slice a l.length ca, .slice none 0 0, .slice none 0 0] 27)) (some ⟨w2.heap.size, 0, none⟩) 0 [arrT l] := by
  have hb2 := hb.alloc hb.size (.cells #[.int .i64 5, .int .i64 0, .string ByteArray.empty, .slice a l.length ca, .slice none 0 0, .slice none 0 0] 27)
  refine RV.RepL.of [arrT l] 0 fun j hj => ?_
  match j, hj with
  | 0, _ => exact ⟨_, _, _, _, _, _, by simp, by simp, by simp, by simp, by simp, by simp, arrT_rep (c := ca) hl (RV.RepL.below hb2 hr)⟩

set_option maxRecDepth 100000 in
set_option maxHeartbeats 1600000 in
theorem fnReverse_law_at {l : List RV} {a : Option Addr} {ca : Nat} {w : World} (hl : l.length ≤ reachN) (hr : RV.RepL w a 0 l) (hT : Tabs w) :
    Calls Tryz.prog 3 #[.slice a l.length ca] w fun e w' => e = .returned (.bool true) ∧ Below w.heap.size w w' := by
  have HR := Lib.hid hr
  have HT := Lib.hid hT
  have HL := Lib.hid hl
  have HA := Lib.hid (fun (a : Option Addr) (n c : Nat) (wx : World) => array_c a n c wx)
  clear hr hT
  unfold reachN at hl
  by_cases h1 : l.length ≤ 2147483647
  · have hj1 : ¬ ((2147483647 : Int) < (l.length : Int)) := by omega
    go_enter Tryz.func3, Tryz.ntmps3
    go_wp2_with fail
    refine (HA.out _ _ _ _).mono ?_
    rintro e w1 ⟨rfl, hb1⟩
    have HB1 := Lib.hid hb1
    clear hb1
    go_wp2_with fail
    refine (fits_any [arrT l] _ 1 _ (by show 1 ≤ reachN; decide) (HT.out.below (HB1.out.alloc HB1.out.size _)) (one_array w l a ca HL.out HR.out w1 HB1.out)).mono ?_
    rintro e w3 ⟨bf, rfl, hb3, hq⟩
    have HB3 := Lib.hid ((HB1.out.alloc HB1.out.size _).trans (hb3.mono (Nat.le_trans HB1.out.size (by simp))))
    have HQ := Lib.hid hq
    clear hb3 hq
    cases bf
    · go_wp2_with fail
      go_ret
      exact ⟨rfl, HB3.out⟩
    · have hq0 := HQ.out rfl 0 (by simp)
      simp only [List.getElem_cons_zero] at hq0
      have hg0 : RV.GoodL l := by have := hq0.1; unfold arrT at this; exact this.rest.2.2.2.2.2.2.2.2.1
      rw [arrT_nodes, arrT_bytes] at hq0
      have hn0 : RV.nodesL l ≤ 399 ∧ RV.bytesL l ≤ 100000 := by omega
      have HGD := Lib.hid (And.intro hg0 hn0)
      have hlen : l.length ≤ 100000 := by have := RV.len_le l; omega
      have HLEN := Lib.hid hlen
      have HRV := Lib.hid (fun (v : Value) (wx : World) (hr : (arrT l).Rep wx v) => implReverse_any l v wx hg0 hn0.1 hn0.2 hr)
      have HTD := Lib.hid (fun (r v : Value) (wx : World) (hr : ResIs (arrT l.reverse) wx r) (hv : (arrT l.reverse).Rep wx v) => told_any (arrT l.reverse) r v wx (arrT_good (goodL_reverse hg0)) hr hv)
      clear HQ hq0 hg0 hn0 hlen
      go_wp2_with fail
      refine (HA.out _ _ _ _).mono ?_
      rintro e w4 ⟨rfl, hb4⟩
      have HB4 := Lib.hid (HB3.out.trans (hb4.mono HB3.out.size))
      clear hb4
      go_wp2_with fail
      refine (callRev_any l a ca _ HLEN.out HGD.out.1 (RV.RepL.below HB4.out HR.out)).mono ?_
      rintro e w5 ⟨ra, rc, rfl, hh, hb5⟩
      have HRR := Lib.hid (hh w5 hb5 (SameFrom.refl _ _))
      have HB5 := Lib.hid (HB4.out.trans (hb5.mono HB4.out.size))
      clear hh hb5
      go_wp2_with fail
      have hb6 : Below w.heap.size w (World.drew (w5.alloc (.cells #[.int .i64 5, .int .i64 0, .string ByteArray.empty, .slice ra l.length rc, .slice none 0 0, .slice none 0 0] 27))) := (HB5.out.alloc HB5.out.size _).drew
      have hx6 : RV.RepL (World.drew (w5.alloc (.cells #[.int .i64 5, .int .i64 0, .string ByteArray.empty, .slice ra l.length rc, .slice none 0 0, .slice none 0 0] 27))) ra 0 l.reverse := RV.RepL.below ((Below.refl _ _).alloc (Nat.le_refl _) _).drew HRR.out
      have HB6 := Lib.hid hb6
      have HX6 := Lib.hid hx6
      clear hb6 hx6
      go_region_held3 (fun W' : World => W'.cell? ⟨w5.heap.size, 0, none⟩ = some (.int .i64 5) ∧ W'.cell? ⟨w5.heap.size, 1, none⟩ = some (.int .i64 0) ∧ W'.cell? ⟨w5.heap.size, 2, none⟩ = some (.string ByteArray.empty) ∧ W'.cell? ⟨w5.heap.size, 3, none⟩ = some (.slice ra l.length rc) ∧ W'.cell? ⟨w5.heap.size, 4, none⟩ = some (.slice none 0 0) ∧ W'.cell? ⟨w5.heap.size, 5, none⟩ = some (.slice none 0 0)) (go_keep) (first | (go_at_call 8; refine (HA.out _ _ _ _).mono ?_; rintro e w7 ⟨rfl, hb7⟩; have HB7 := Lib.hid (HB6.out.trans (hb7.mono HB6.out.size)); have HX7 := Lib.hid (RV.RepL.below hb7 HX6.out); obtain ⟨hc7', -⟩ := bcell hb7; have hc7 := fun o => hc7' w5.heap.size o (by simp); have hl7 : w5.heap.size < w7.heap.size := Nat.lt_of_lt_of_le (by simp) hb7.size; clear hc7' hb7) | (go_at_call 11; refine (HRV.out _ _ (arrT_rep HL.out (RV.RepL.below HB7.out HR.out))).mono ?_; rintro e w8 ⟨r, rfl, hres, hb8⟩; have HRS := Lib.hid hres; have HB8 := Lib.hid (HB7.out.trans (hb8.mono HB7.out.size)); have HX8 := Lib.hid (RV.RepL.below hb8 HX7.out); obtain ⟨hc8', -⟩ := bcell hb8; have hc8 := fun o => hc8' w5.heap.size o hl7; have hl8 : w5.heap.size < w8.heap.size := Nat.lt_of_lt_of_le hl7 hb8.size; obtain ⟨rk, rh, rt, ral, rn, rcl, rak, rm, rck, rav, rq, rcv, rfl⟩ := hres.shape; clear hc8' hres hb8) | (go_at_call 10; refine (HTD.out _ _ _ HRS.out.is (by have h := arrT_rep (c := rc) (l := l.reverse) (by simp; exact HL.out) HX8.out; rw [List.length_reverse] at h; exact h)).mono ?_; rintro e w9 ⟨rfl, hb9⟩; have HB9 := Lib.hid (HB8.out.trans (hb9.mono HB8.out.size)); obtain ⟨hc9', -⟩ := bcell hb9; have hc9 := fun o => hc9' w5.heap.size o hl8; clear hc9' hb9))
      go_wp2_with fail
      go_ret
      exact ⟨rfl, HB9.out⟩
  · have hj : ¬ ((l.length : Int) ≤ 2147483647) := by omega
    go_enter Tryz.func3, Tryz.ntmps3
    go_wp2_with fail
    go_ret
    exact ⟨rfl, Below.refl _ _⟩
end Go.Proofs.YtjpcdbopioblaaaGreatDoor
