/- FnTypeOf walked: the name of a value's type. -/
import Derived.Test.YtjpcdbopioblaaaDoorToGo
import Derived.Test.YtjpcdbopioblaaaDoorAssert
import Derived.Deep.RegionWith
namespace Go.Proofs.YtjpcdbopioblaaaDoor
open Go.RowKit Go.Maps

set_option maxRecDepth 100000 in
set_option maxHeartbeats 400000 in
theorem gTypeOf_any (k h : Int) (t : ByteArray) (l : List RV) (ks : List ByteArray) (vs : List RV) (v : Value) (w : World) (base : Nat) (hg : (RV.mk k h t l ks vs).Go w base v) :
    Calls Tryd.prog 38 #[v] w fun e w' => e = .returned (.string (typeName k)) ∧ w = w' := by
  unfold RV.Go at hg
  rcases hg with ⟨rfl, rfl⟩ | ⟨rfl, rfl⟩ | ⟨rfl, rfl⟩ | ⟨rfl, rfl⟩ | ⟨rfl, rfl⟩ | ⟨rfl, a, cap, rfl, hl⟩ | ⟨rfl, r, n, xs, rfl, hb, hn, hm, hxs, hv⟩
  · skip
    have a_bool := as_nil_bool
    have a_int := as_nil_int
    have a_float := as_nil_float
    have a_big := as_nil_big
    have a_num := as_nil_num
    have a_str := as_nil_str
    have a_list := as_nil_list
    have a_map := as_nil_map
    go_enter Tryd.func38, Tryd.ntmps38
    go_wp2_with fail
    go_ret
    exact ⟨by simp [typeName], rfl⟩
  · skip
    have a_bool := as_bool_bool
    have a_int := as_bool_int
    have a_float := as_bool_float
    have a_big := as_bool_big
    have a_num := as_bool_num
    have a_str := as_bool_str
    have a_list := as_bool_list
    have a_map := as_bool_map
    go_enter Tryd.func38, Tryd.ntmps38
    go_wp2_with fail
    go_ret
    exact ⟨by simp [typeName], rfl⟩
  · skip
    have a_bool := as_bool_bool
    have a_int := as_bool_int
    have a_float := as_bool_float
    have a_big := as_bool_big
    have a_num := as_bool_num
    have a_str := as_bool_str
    have a_list := as_bool_list
    have a_map := as_bool_map
    go_enter Tryd.func38, Tryd.ntmps38
    go_wp2_with fail
    go_ret
    exact ⟨by simp [typeName], rfl⟩
  · unfold numG
    split
    · skip
      have a_bool := as_int_bool
      have a_int := as_int_int
      have a_float := as_int_float
      have a_big := as_int_big
      have a_num := as_int_num
      have a_str := as_int_str
      have a_list := as_int_list
      have a_map := as_int_map
      go_enter Tryd.func38, Tryd.ntmps38
      go_wp2_with fail
      go_ret
      exact ⟨by simp [typeName], rfl⟩
    · skip
      have a_bool := as_float_bool
      have a_int := as_float_int
      have a_float := as_float_float
      have a_big := as_float_big
      have a_num := as_float_num
      have a_str := as_float_str
      have a_list := as_float_list
      have a_map := as_float_map
      go_enter Tryd.func38, Tryd.ntmps38
      go_wp2_with fail
      go_ret
      exact ⟨by simp [typeName], rfl⟩
  · skip
    have a_bool := as_str_bool
    have a_int := as_str_int
    have a_float := as_str_float
    have a_big := as_str_big
    have a_num := as_str_num
    have a_str := as_str_str
    have a_list := as_str_list
    have a_map := as_str_map
    go_enter Tryd.func38, Tryd.ntmps38
    go_wp2_with fail
    go_ret
    exact ⟨by simp [typeName], rfl⟩
  · clear hl
    have a_bool := as_list_bool
    have a_int := as_list_int
    have a_float := as_list_float
    have a_big := as_list_big
    have a_num := as_list_num
    have a_str := as_list_str
    have a_list := as_list_list
    have a_map := as_list_map
    go_enter Tryd.func38, Tryd.ntmps38
    go_wp2_with fail
    go_ret
    exact ⟨by simp [typeName], rfl⟩
  · clear hm hv
    have a_bool := as_map_bool
    have a_int := as_map_int
    have a_float := as_map_float
    have a_big := as_map_big
    have a_num := as_map_num
    have a_str := as_map_str
    have a_list := as_map_list
    have a_map := as_map_map
    go_enter Tryd.func38, Tryd.ntmps38
    go_wp2_with fail
    go_ret
    exact ⟨by simp [typeName], rfl⟩

set_option maxRecDepth 100000 in
set_option maxHeartbeats 400000 in
theorem implTypeOf_any (k h : Int) (t : ByteArray) (l : List RV) (ks : List ByteArray) (vs : List RV) (v : Value) (w : World) (hn : (RV.mk k h t l ks vs).nodes ≤ 400) (hg : (RV.mk k h t l ks vs).Good) (hr : (RV.mk k h t l ks vs).Rep w v) :
    Calls Tryd.prog 12 #[v] w fun e w' => e = .returned (.string (typeName k)) ∧ Below w.heap.size w w' := by
  have HC := Lib.hid (fun w' (hb : Below w.heap.size w w') => toGo_any 400 (Nat.le_refl _) _ v w' hn hg (hr.below hb))
  unfold RV.Rep at hr
  obtain ⟨al, cl, ak, ck, av, cv, rfl, hk, hh, ht, hll, hlk, hlv, hrl, hrk, hrv⟩ := hr
  clear hrl hrk hrv hg hn
  go_enter Tryd.func12, Tryd.ntmps12
  go_wp2_with fail
  refine (HC.out _ ((Below.refl _ _).alloc (Nat.le_refl _) _)).mono ?_
  rintro e w1 ⟨v, rfl, hv, hb⟩
  have HV := Lib.hid hv
  have HB := Lib.hid hb
  have hs := hv.shape
  clear hv hb
  rcases hs with rfl | ⟨ty, y, rfl⟩
  all_goals
    go_wp2_with (go_at_call 38; refine (gTypeOf_any k h t l ks vs _ _ _ HV.out).mono ?_; rintro e w2 ⟨rfl, rfl⟩)
    go_ret
    exact ⟨rfl, ((Below.refl _ _).alloc (Nat.le_refl _) _).trans (HB.out.mono (by simp))⟩

set_option maxRecDepth 100000 in
set_option maxHeartbeats 400000 in
theorem fnTypeOf_law (x : RV) (v : Value) (w : World) (hT : Tabs w) (hr : x.Rep w v) :
    Calls Tryd.prog 3 #[v] w fun e w' => e = .returned (.bool true) ∧ Below w.heap.size w w' := by
  obtain ⟨k, h, t, l, ks, vs⟩ := x
  have HR := Lib.hid hr
  have HT := Lib.hid hT
  unfold RV.Rep at hr
  obtain ⟨al, cl, ak, ck, av, cv, rfl, hk, hh, ht, hll, hlk, hlv, hrl, hrk, hrv⟩ := hr
  clear hrl hrk hrv hT
  have hW : ∀ wx, Below w.heap.size w wx → Calls Tryd.prog 10 #[.agg #[.int .i64 k, .int .i64 h, .string t, .slice al l.length cl, .slice ak ks.length ck, .slice av vs.length cv]] wx (BoolPost wx) := fun wx hb => fits1_any _ _ wx (HR.out.below hb)
  have HW := Lib.hid hW
  have hF : ∀ wx, Below w.heap.size w wx → Calls Tryd.prog 11 #[.agg #[.int .i64 k, .int .i64 h, .string t, .slice al l.length cl, .slice ak ks.length ck, .slice av vs.length cv]] wx (FitPost (.mk k h t l ks vs) wx) := fun wx hb => fit_any _ _ wx (HT.out.below hb) (HR.out.below hb)
  have HF := Lib.hid hF
  have hO : (RV.mk k h t l ks vs).Good ∧ (RV.mk k h t l ks vs).nodes ≤ 400 → ∀ wx, Below w.heap.size w wx → Calls Tryd.prog 12 #[.agg #[.int .i64 k, .int .i64 h, .string t, .slice al l.length cl, .slice ak ks.length ck, .slice av vs.length cv]] wx fun e w' => e = .returned (.string (typeName k)) ∧ Below wx.heap.size wx w' := fun hgn wx hb => implTypeOf_any _ _ _ _ _ _ _ wx hgn.2 hgn.1 (HR.out.below hb)
  have HO := Lib.hid hO
  have hY : ∀ wx, Below w.heap.size w wx → Calls Tryd.prog 13 #[.agg #[.int .i64 k, .int .i64 h, .string t, .slice al l.length cl, .slice ak ks.length ck, .slice av vs.length cv]] wx fun e w' => e = .returned (.string (typeName k)) ∧ Below wx.heap.size wx w' := fun wx hb => type_any _ _ wx k h t l ks vs rfl (HR.out.below hb)
  have HY := Lib.hid hY
  clear hW hF hO hY
  go_enter Tryd.func3, Tryd.ntmps3
  go_wp2_with fail
  refine (HW.out _ ((Below.refl _ _).alloc (Nat.le_refl _) _)).mono ?_
  rintro e w1 ⟨⟨b0, rfl⟩, hb1⟩
  have hB1 : Below w.heap.size w w1 := ((Below.refl _ _).alloc (Nat.le_refl _) _).trans (hb1.mono (by simp))
  have HB1 := Lib.hid hB1
  obtain ⟨hc1, hf1⟩ := bcell hb1
  have hz1 := hb1.size
  simp at hz1
  have hy1 : w.heap.size < w1.heap.size := by omega
  clear hb1 hB1
  cases b0
  · go_wp2_with fail
    go_ret
    exact ⟨rfl, HB1.out⟩
  · go_wp2_with fail
    refine wp_region_any (by kernel_rfl) ?_
    change wpAny _ _ _ _ _ _ _ (World.drew _)
    refine wpAny_ready (rs := [0]) (by kernel_rfl) (by simp) ?_
    refine AllReady.cons rfl (fun K hK => ?_) AllReady.nil
    go_simp
    refine hK _ _ ?_; clear hK K
    refine wpAny_ready (rs := [1]) (by kernel_rfl) (by simp) ?_
    refine AllReady.cons rfl (fun K hK => ?_) AllReady.nil
    go_simp
    go_wp2_with (go_at_call 11; refine (HF.out _ HB1.out.drew).mono ?_; rintro e w2 ⟨b, rfl, hb2, hq⟩; have HQ := Lib.hid hq; have HB2 := Lib.hid (HB1.out.drew.trans (hb2.mono HB1.out.size)); obtain ⟨hc2', -⟩ := bcell hb2; have hc2 := fun o => hc2' w.heap.size o (by simpa using hy1); clear hc2'; have hz2 := hb2.size; clear hq hb2; simp at hz2; have hy2 : w.heap.size < w2.heap.size := (by omega); cases b)
    · iterate 10 (all_goals (try (
        (first | (refine wpAny_ready (rs := [2]) (by decide +kernel) (by simp) ?_; refine (AllReady.cons rfl (fun K hK => ?_) AllReady.nil)) | (refine wpAny_ready (rs := [3]) (by decide +kernel) (by simp) ?_; refine (AllReady.cons rfl (fun K hK => ?_) AllReady.nil)) | (refine wpAny_ready (rs := [4, 6]) (by decide +kernel) (by simp) ?_; refine (AllReady.cons rfl (fun K hK => ?_) (AllReady.cons rfl (fun K hK => ?_) AllReady.nil))) | (refine wpAny_ready (rs := [4]) (by decide +kernel) (by simp) ?_; refine (AllReady.cons rfl (fun K hK => ?_) AllReady.nil)) | (refine wpAny_ready (rs := [5, 6]) (by decide +kernel) (by simp) ?_; refine (AllReady.cons rfl (fun K hK => ?_) (AllReady.cons rfl (fun K hK => ?_) AllReady.nil))) | (refine wpAny_ready (rs := [6, 5]) (by decide +kernel) (by simp) ?_; refine (AllReady.cons rfl (fun K hK => ?_) (AllReady.cons rfl (fun K hK => ?_) AllReady.nil))) | (refine wpAny_ready (rs := [5]) (by decide +kernel) (by simp) ?_; refine (AllReady.cons rfl (fun K hK => ?_) AllReady.nil)) | (refine wpAny_ready (rs := [6]) (by decide +kernel) (by simp) ?_; refine (AllReady.cons rfl (fun K hK => ?_) AllReady.nil)) | (refine wpAny_ready (rs := [7]) (by decide +kernel) (by simp) ?_; refine (AllReady.cons rfl (fun K hK => ?_) AllReady.nil)) | (refine wpAny_ready (rs := [8]) (by decide +kernel) (by simp) ?_; refine (AllReady.cons rfl (fun K hK => ?_) AllReady.nil)) | (refine wpAny_ready (rs := [9]) (by decide +kernel) (by simp) ?_; refine (AllReady.cons rfl (fun K hK => ?_) AllReady.nil)) | (refine wpAny_ready (rs := [10]) (by decide +kernel) (by simp) ?_; refine (AllReady.cons rfl (fun K hK => ?_) AllReady.nil))) <;> go_simp <;> (try go_wp2_with (fail)) <;> (try (refine hK _ _ ?_; clear hK K)))))
      all_goals refine wpAny_done (by kernel_rfl) ?_ _
      all_goals go_wp2_with fail
      all_goals go_ret
      all_goals exact ⟨rfl, HB2.out⟩
    · iterate 10 (all_goals (try (
        (first | (refine wpAny_ready (rs := [2]) (by decide +kernel) (by simp) ?_; refine (AllReady.cons rfl (fun K hK => ?_) AllReady.nil)) | (refine wpAny_ready (rs := [3]) (by decide +kernel) (by simp) ?_; refine (AllReady.cons rfl (fun K hK => ?_) AllReady.nil)) | (refine wpAny_ready (rs := [4, 6]) (by decide +kernel) (by simp) ?_; refine (AllReady.cons rfl (fun K hK => ?_) (AllReady.cons rfl (fun K hK => ?_) AllReady.nil))) | (refine wpAny_ready (rs := [4]) (by decide +kernel) (by simp) ?_; refine (AllReady.cons rfl (fun K hK => ?_) AllReady.nil)) | (refine wpAny_ready (rs := [5, 6]) (by decide +kernel) (by simp) ?_; refine (AllReady.cons rfl (fun K hK => ?_) (AllReady.cons rfl (fun K hK => ?_) AllReady.nil))) | (refine wpAny_ready (rs := [6, 5]) (by decide +kernel) (by simp) ?_; refine (AllReady.cons rfl (fun K hK => ?_) (AllReady.cons rfl (fun K hK => ?_) AllReady.nil))) | (refine wpAny_ready (rs := [5]) (by decide +kernel) (by simp) ?_; refine (AllReady.cons rfl (fun K hK => ?_) AllReady.nil)) | (refine wpAny_ready (rs := [6]) (by decide +kernel) (by simp) ?_; refine (AllReady.cons rfl (fun K hK => ?_) AllReady.nil)) | (refine wpAny_ready (rs := [7]) (by decide +kernel) (by simp) ?_; refine (AllReady.cons rfl (fun K hK => ?_) AllReady.nil)) | (refine wpAny_ready (rs := [8]) (by decide +kernel) (by simp) ?_; refine (AllReady.cons rfl (fun K hK => ?_) AllReady.nil)) | (refine wpAny_ready (rs := [9]) (by decide +kernel) (by simp) ?_; refine (AllReady.cons rfl (fun K hK => ?_) AllReady.nil)) | (refine wpAny_ready (rs := [10]) (by decide +kernel) (by simp) ?_; refine (AllReady.cons rfl (fun K hK => ?_) AllReady.nil))) <;> go_simp <;> (try go_wp2_with (first | (go_at_call 12; refine (HO.out ⟨(HQ.out (by simp)).1, (HQ.out (by simp)).2.1⟩ _ HB2.out).mono ?_; rintro e w3 ⟨rfl, hb3⟩; have HB3 := Lib.hid (HB2.out.trans (hb3.mono HB2.out.size)); obtain ⟨hc3', -⟩ := bcell hb3; have hc3 := fun o => hc3' w.heap.size o hy2; clear hc3'; have hz3 := hb3.size; clear hb3; have hy3 : w.heap.size < w3.heap.size := (by omega)) | (go_at_call 13; refine (HY.out _ HB3.out).mono ?_; rintro e w4 ⟨rfl, hb4⟩; have HB4 := Lib.hid (HB3.out.trans (hb4.mono HB3.out.size)); clear hb4))) <;> (try (refine hK _ _ ?_; clear hK K)))))
      all_goals refine wpAny_done (by kernel_rfl) ?_ _
      all_goals go_wp2_with fail
      all_goals go_ret
      all_goals exact ⟨rfl, HB4.out⟩
theorem fnTypeOf_law_at {x : RV} {v : Value} {w : World} (hr : x.Rep w v) (hT : Tabs w) :
    Calls Tryd.prog 3 #[v] w fun e w' => e = .returned (.bool true) ∧ Below w.heap.size w w' := fnTypeOf_law x v w hT hr
end Go.Proofs.YtjpcdbopioblaaaDoor
