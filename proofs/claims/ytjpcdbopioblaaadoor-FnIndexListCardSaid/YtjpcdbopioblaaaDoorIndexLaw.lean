/- FnIndexList walked. -/
import Derived.Test.YtjpcdbopioblaaaDoorIndexList
import Derived.Deep.RegionHeld3
namespace Go.Proofs.YtjpcdbopioblaaaDoor
open Go.RowKit

theorem wp_forget {P : Program} {c : Code} {Q : Exit → Act → World → Prop} {a : Act} {W : World} (S : World → Prop) (hS : S W) (h : ∀ W', S W' → c.wp P Q a W') : c.wp P Q a W := h W hS

/-- Ahead of the comparison: the argument's copy and the answer that is wanted. -/
structure IxS (w : World) (y : RV) (v0 v1 v2 v3 v4 v5 : Value) (T : Nat) (c0 c1 c2 c3 c4 c5 : Value) (W : World) : Prop where
  below : Below w.heap.size w W
  lt : w.heap.size < T ∧ T < W.heap.size
  q0 : W.cell? ⟨w.heap.size, 0, none⟩ = some v0
  q1 : W.cell? ⟨w.heap.size, 1, none⟩ = some v1
  q2 : W.cell? ⟨w.heap.size, 2, none⟩ = some v2
  q3 : W.cell? ⟨w.heap.size, 3, none⟩ = some v3
  q4 : W.cell? ⟨w.heap.size, 4, none⟩ = some v4
  q5 : W.cell? ⟨w.heap.size, 5, none⟩ = some v5
  t0 : W.cell? ⟨T, 0, none⟩ = some c0
  t1 : W.cell? ⟨T, 1, none⟩ = some c1
  t2 : W.cell? ⟨T, 2, none⟩ = some c2
  t3 : W.cell? ⟨T, 3, none⟩ = some c3
  t4 : W.cell? ⟨T, 4, none⟩ = some c4
  t5 : W.cell? ⟨T, 5, none⟩ = some c5
  rep : y.Rep W (.agg #[c0, c1, c2, c3, c4, c5])

set_option maxRecDepth 100000 in
set_option maxHeartbeats 3200000 in
theorem fnIndexList_law_at {x : RV} {v : Value} {i : Int} {w : World} (hr : x.Rep w v) (hi : I64 i) (hT : Tabs w) :
    Calls Tryd.prog 6 #[v, .int .i64 i] w fun e w' => e = .returned (.bool true) ∧ Below w.heap.size w w' := by
  have HX := Lib.hid hr
  obtain ⟨k, h, t, l, ks, vs⟩ := x
  have hr' := hr
  unfold RV.Rep at hr'
  obtain ⟨al, cl, ak, ck, av, cv, rfl, -, -, -, hll, -, -, hrl, -⟩ := hr'
  have HZ := Lib.hid (fun wx (hb : Below w.heap.size w wx) => fits1_any _ _ wx (hr.below hb))
  have HF := Lib.hid (fun wx (hb : Below w.heap.size w wx) => fit_any _ _ wx (hT.below hb) (hr.below hb))
  have HRL := Lib.hid hrl
  clear hr hT hrl
  go_enter Tryd.func6, Tryd.ntmps6
  go_wp2_with fail
  refine (HZ.out _ ((Below.refl _ _).alloc (Nat.le_refl _) _)).mono ?_
  rintro e w1 ⟨⟨b0, rfl⟩, hb1⟩
  have HB1 := Lib.hid (((Below.refl w.heap.size w).alloc (Nat.le_refl _) _).trans (hb1.mono (by simp)))
  obtain ⟨hc1', -⟩ := bcell hb1
  have hc1 := fun o => hc1' w.heap.size o (by simp)
  have hz1 := hb1.size
  simp at hz1
  have hy1 : w.heap.size < w1.heap.size := by omega
  clear hb1 hc1' hz1
  cases b0
  · go_wp2_with fail
    go_ret
    exact ⟨rfl, HB1.out⟩
  · go_wp2_with fail
    refine (HF.out _ HB1.out).mono ?_
    rintro e w2 ⟨b, rfl, hb2, hq⟩
    have HQ := Lib.hid hq
    have HB2 := Lib.hid (HB1.out.trans (hb2.mono HB1.out.size))
    obtain ⟨hc2', -⟩ := bcell hb2
    have hc2 := fun o => hc2' w.heap.size o hy1
    have hy2 : w.heap.size < w2.heap.size := Nat.lt_of_lt_of_le hy1 hb2.size
    clear hb2 hc2' hq
    cases b
    · go_wp2_with fail
      go_ret
      exact ⟨rfl, HB2.out⟩
    · by_cases k5 : k = 5
      · subst k5
        obtain ⟨hg, hn4, hb4⟩ := HQ.out rfl
        obtain ⟨r3, r4, r5, r6, -, -, -, -, gl, -⟩ := hg.rest
        obtain rfl := r3 (by decide)
        obtain rfl := r4 (by decide)
        obtain ⟨rfl, rfl⟩ := r6 (by decide)
        have hn4' : RV.nodesL l ≤ 400 := by have := listT_nodes l; unfold listT at this; omega
        have hb4' : RV.bytesL l ≤ 100000 := by have := listT_bytes l; unfold listT at this; omega
        have hlen : l.length ≤ 400 := Nat.le_trans (RV.len_le l) hn4'
        have hok := pickI_ok (i := i) gl (by omega) hb4'
        have HIX := Lib.hid (fun (wx : World) (hb : Below w.heap.size w wx) => implIndexList_any l i _ wx hi gl hn4' hb4' (HX.out.below hb))
        have HGV := Lib.hid (fun (r v : Value) (wx : World) (hr : ResIs (pickI l i) wx r) (hv : (pickI l i).Rep wx v) => given_any (pickI l i) r v wx hok.1 hr hv)
        have HEND : Hid (∀ W, Below w.heap.size w W → ∀ x, (pickI l i).Rep W x → True) := Lib.hid (fun _ _ _ _ => trivial)
        clear HQ hg r3 r4 r5 r6 gl HZ HF hn4 hb4 hn4' hb4' hok hll
        unfold I64 at hi
        rcases place_cases i l.length with ⟨j, hj, hjl⟩ | hn
        · have hp := Lib.hid (pickI_some hj hjl)
          obtain ⟨b, o, d0, d1, d2, d3, d4, d5, rfl, g0, g1, g2, g3, g4, g5, hrep⟩ := (HRL.out.below HB2.out).get j hjl
          simp only [Nat.zero_add] at g0 g1 g2 g3 g4 g5
          have HREP := Lib.hid hrep
          obtain ⟨ek, eh, et, eal, en, ecl, eak, em, eck, eav, eq, ecv, rfl, rfl, rfl, rfl, rfl, rfl⟩ := hrep.shape
          have hjc : (j : Int) < (l.length : Int) := by omega
          have hbl : b < w2.heap.size := cell_lt g0
          have hbn : b ≠ w2.heap.size := Nat.ne_of_lt hbl
          have hbm : w2.heap.size ≠ b := hbn.symm
          clear hrep
          by_cases h0 : 0 ≤ i
          · obtain rfl : i = j := by omega
            clear hj h0
            go_wp2_with fail
            refine wp_forget (IxS w (pickI l (j : Int)) (.int .i64 5) (.int .i64 0) (.string ByteArray.empty) (.slice (some ⟨b, o, none⟩) l.length cl) (.slice ak 0 ck) (.slice av 0 cv) w2.heap.size (.int .i64 ek) (.int .i64 eh) (.string et) (.slice eal en ecl) (.slice eak em eck) (.slice eav eq ecv)) ⟨HB2.out.alloc HB2.out.size _, ⟨hy2, by simp⟩, (World.cell?_alloc_lt _ _ _ hy2).trans ((hc2 0).trans ((hc1 0).trans (by simp))), (World.cell?_alloc_lt _ _ _ hy2).trans ((hc2 1).trans ((hc1 1).trans (by simp))), (World.cell?_alloc_lt _ _ _ hy2).trans ((hc2 2).trans ((hc1 2).trans (by simp))), (World.cell?_alloc_lt _ _ _ hy2).trans ((hc2 3).trans ((hc1 3).trans (by simp))), (World.cell?_alloc_lt _ _ _ hy2).trans ((hc2 4).trans ((hc1 4).trans (by simp))), (World.cell?_alloc_lt _ _ _ hy2).trans ((hc2 5).trans ((hc1 5).trans (by simp))), by simp, by simp, by simp, by simp, by simp, by simp, (by rw [hp.out]; exact HREP.out.below ((Below.refl _ _).alloc (Nat.le_refl _) _))⟩ ?_
            intro W HS
            have HSH := Lib.hid HS
            obtain ⟨-, ⟨hlt1, hlt2⟩, q0, q1, q2, q3, q4, q5, t0, t1, t2, t3, t4, t5, -⟩ := HS
            have HBD := Lib.hid HSH.out.below.drew
            have HRD := Lib.hid (HSH.out.rep.below (Below.refl _ W).drew)
            have hlt3 : w.heap.size < W.heap.size := by omega
            clear hc1 hc2
            go_region_held3 (fun W' : World => W'.cell? ⟨w.heap.size, 0, none⟩ = some (.int .i64 5) ∧ W'.cell? ⟨w.heap.size, 1, none⟩ = some (.int .i64 0) ∧ W'.cell? ⟨w.heap.size, 2, none⟩ = some (.string ByteArray.empty) ∧ W'.cell? ⟨w.heap.size, 3, none⟩ = some (.slice (some ⟨b, o, none⟩) l.length cl) ∧ W'.cell? ⟨w.heap.size, 4, none⟩ = some (.slice ak 0 ck) ∧ W'.cell? ⟨w.heap.size, 5, none⟩ = some (.slice av 0 cv) ∧ W'.cell? ⟨w2.heap.size, 0, none⟩ = some (.int .i64 ek) ∧ W'.cell? ⟨w2.heap.size, 1, none⟩ = some (.int .i64 eh) ∧ W'.cell? ⟨w2.heap.size, 2, none⟩ = some (.string et) ∧ W'.cell? ⟨w2.heap.size, 3, none⟩ = some (.slice eal en ecl) ∧ W'.cell? ⟨w2.heap.size, 4, none⟩ = some (.slice eak em eck) ∧ W'.cell? ⟨w2.heap.size, 5, none⟩ = some (.slice eav eq ecv)) (go_keep) (first | (go_at_call 25; refine (HIX.out _ HBD.out).mono ?_; rintro e w5 ⟨r, rfl, hres, hb5⟩; have HRS := Lib.hid hres; have HB5 := Lib.hid (HBD.out.trans (hb5.mono HBD.out.size)); have HR5 := Lib.hid (HRD.out.below hb5); obtain ⟨hc5', -⟩ := bcell hb5; have hc5 := fun o => hc5' w.heap.size o hlt3; have hd5 := fun o => hc5' w2.heap.size o hlt2; have hl5 : w2.heap.size < w5.heap.size := Nat.lt_of_lt_of_le hlt2 hb5.size; obtain ⟨rk, rh, rt, ral, rn, rcl, rak, rm, rck, rav, rq, rcv, rfl⟩ := hres.shape; clear hc5' hres hb5) | (go_at_call 23; refine (HGV.out _ _ _ HRS.out.is HR5.out).mono ?_; rintro e w6 ⟨rfl, hb6⟩; have HB6 := Lib.hid (HB5.out.trans (hb6.mono HB5.out.size)); obtain ⟨hc6', -⟩ := bcell hb6; have hc6 := fun o => hc6' w.heap.size o (by omega); have hd6 := fun o => hc6' w2.heap.size o hl5; clear hc6' hb6))
            go_wp2_with fail
            go_ret
            exact ⟨rfl, HB6.out⟩
          · have c1 : i < 0 := by omega
            have c2 : -(l.length : Int) ≤ i := by omega
            have e1 : (l.length : Int) + i = (j : Int) := by omega
            clear hj h0
            go_wp2_with fail
            refine wp_forget (IxS w (pickI l i) (.int .i64 5) (.int .i64 0) (.string ByteArray.empty) (.slice (some ⟨b, o, none⟩) l.length cl) (.slice ak 0 ck) (.slice av 0 cv) w2.heap.size (.int .i64 ek) (.int .i64 eh) (.string et) (.slice eal en ecl) (.slice eak em eck) (.slice eav eq ecv)) ⟨HB2.out.alloc HB2.out.size _, ⟨hy2, by simp⟩, (World.cell?_alloc_lt _ _ _ hy2).trans ((hc2 0).trans ((hc1 0).trans (by simp))), (World.cell?_alloc_lt _ _ _ hy2).trans ((hc2 1).trans ((hc1 1).trans (by simp))), (World.cell?_alloc_lt _ _ _ hy2).trans ((hc2 2).trans ((hc1 2).trans (by simp))), (World.cell?_alloc_lt _ _ _ hy2).trans ((hc2 3).trans ((hc1 3).trans (by simp))), (World.cell?_alloc_lt _ _ _ hy2).trans ((hc2 4).trans ((hc1 4).trans (by simp))), (World.cell?_alloc_lt _ _ _ hy2).trans ((hc2 5).trans ((hc1 5).trans (by simp))), by simp, by simp, by simp, by simp, by simp, by simp, (by rw [hp.out]; exact HREP.out.below ((Below.refl _ _).alloc (Nat.le_refl _) _))⟩ ?_
            intro W HS
            have HSH := Lib.hid HS
            obtain ⟨-, ⟨hlt1, hlt2⟩, q0, q1, q2, q3, q4, q5, t0, t1, t2, t3, t4, t5, -⟩ := HS
            have HBD := Lib.hid HSH.out.below.drew
            have HRD := Lib.hid (HSH.out.rep.below (Below.refl _ W).drew)
            have hlt3 : w.heap.size < W.heap.size := by omega
            clear hc1 hc2
            go_region_held3 (fun W' : World => W'.cell? ⟨w.heap.size, 0, none⟩ = some (.int .i64 5) ∧ W'.cell? ⟨w.heap.size, 1, none⟩ = some (.int .i64 0) ∧ W'.cell? ⟨w.heap.size, 2, none⟩ = some (.string ByteArray.empty) ∧ W'.cell? ⟨w.heap.size, 3, none⟩ = some (.slice (some ⟨b, o, none⟩) l.length cl) ∧ W'.cell? ⟨w.heap.size, 4, none⟩ = some (.slice ak 0 ck) ∧ W'.cell? ⟨w.heap.size, 5, none⟩ = some (.slice av 0 cv) ∧ W'.cell? ⟨w2.heap.size, 0, none⟩ = some (.int .i64 ek) ∧ W'.cell? ⟨w2.heap.size, 1, none⟩ = some (.int .i64 eh) ∧ W'.cell? ⟨w2.heap.size, 2, none⟩ = some (.string et) ∧ W'.cell? ⟨w2.heap.size, 3, none⟩ = some (.slice eal en ecl) ∧ W'.cell? ⟨w2.heap.size, 4, none⟩ = some (.slice eak em eck) ∧ W'.cell? ⟨w2.heap.size, 5, none⟩ = some (.slice eav eq ecv)) (go_keep) (first | (go_at_call 25; refine (HIX.out _ HBD.out).mono ?_; rintro e w5 ⟨r, rfl, hres, hb5⟩; have HRS := Lib.hid hres; have HB5 := Lib.hid (HBD.out.trans (hb5.mono HBD.out.size)); have HR5 := Lib.hid (HRD.out.below hb5); obtain ⟨hc5', -⟩ := bcell hb5; have hc5 := fun o => hc5' w.heap.size o hlt3; have hd5 := fun o => hc5' w2.heap.size o hlt2; have hl5 : w2.heap.size < w5.heap.size := Nat.lt_of_lt_of_le hlt2 hb5.size; obtain ⟨rk, rh, rt, ral, rn, rcl, rak, rm, rck, rav, rq, rcv, rfl⟩ := hres.shape; clear hc5' hres hb5) | (go_at_call 23; refine (HGV.out _ _ _ HRS.out.is HR5.out).mono ?_; rintro e w6 ⟨rfl, hb6⟩; have HB6 := Lib.hid (HB5.out.trans (hb6.mono HB5.out.size)); obtain ⟨hc6', -⟩ := bcell hb6; have hc6 := fun o => hc6' w.heap.size o (by omega); have hd6 := fun o => hc6' w2.heap.size o hl5; clear hc6' hb6))
            go_wp2_with fail
            go_ret
            exact ⟨rfl, HB6.out⟩
        · by_cases h0 : (l.length : Int) ≤ i
          · have c0 : ¬ (i < (l.length : Int)) := by omega
            have c1 : ¬ (i < 0) := by omega
            have HNN := Lib.hid hn
            clear hn
            go_wp2_with fail
            refine wp_forget (IxS w (pickI l i) (.int .i64 5) (.int .i64 0) (.string ByteArray.empty) (.slice al l.length cl) (.slice ak 0 ck) (.slice av 0 cv) w2.heap.size (.int .i64 0) (.int .i64 0) (.string ByteArray.empty) (.slice none 0 0) (.slice none 0 0) (.slice none 0 0)) ⟨HB2.out.alloc HB2.out.size _, ⟨hy2, by simp⟩, (World.cell?_alloc_lt _ _ _ hy2).trans ((hc2 0).trans ((hc1 0).trans (by simp))), (World.cell?_alloc_lt _ _ _ hy2).trans ((hc2 1).trans ((hc1 1).trans (by simp))), (World.cell?_alloc_lt _ _ _ hy2).trans ((hc2 2).trans ((hc1 2).trans (by simp))), (World.cell?_alloc_lt _ _ _ hy2).trans ((hc2 3).trans ((hc1 3).trans (by simp))), (World.cell?_alloc_lt _ _ _ hy2).trans ((hc2 4).trans ((hc1 4).trans (by simp))), (World.cell?_alloc_lt _ _ _ hy2).trans ((hc2 5).trans ((hc1 5).trans (by simp))), by simp, by simp, by (simp; rfl), by simp, by simp, by simp, (by rw [pickI_none HNN.out]; exact rep_flat (by unfold I64; omega) (by unfold I64; omega) (by decide))⟩ ?_
            intro W HS
            have HSH := Lib.hid HS
            obtain ⟨-, ⟨hlt1, hlt2⟩, q0, q1, q2, q3, q4, q5, t0, t1, t2, t3, t4, t5, -⟩ := HS
            have HBD := Lib.hid HSH.out.below.drew
            have HRD := Lib.hid (HSH.out.rep.below (Below.refl _ W).drew)
            have hlt3 : w.heap.size < W.heap.size := by omega
            clear hc1 hc2
            go_region_held3 (fun W' : World => W'.cell? ⟨w.heap.size, 0, none⟩ = some (.int .i64 5) ∧ W'.cell? ⟨w.heap.size, 1, none⟩ = some (.int .i64 0) ∧ W'.cell? ⟨w.heap.size, 2, none⟩ = some (.string ByteArray.empty) ∧ W'.cell? ⟨w.heap.size, 3, none⟩ = some (.slice al l.length cl) ∧ W'.cell? ⟨w.heap.size, 4, none⟩ = some (.slice ak 0 ck) ∧ W'.cell? ⟨w.heap.size, 5, none⟩ = some (.slice av 0 cv) ∧ W'.cell? ⟨w2.heap.size, 0, none⟩ = some (.int .i64 0) ∧ W'.cell? ⟨w2.heap.size, 1, none⟩ = some (.int .i64 0) ∧ W'.cell? ⟨w2.heap.size, 2, none⟩ = some (.string ByteArray.empty) ∧ W'.cell? ⟨w2.heap.size, 3, none⟩ = some (.slice none 0 0) ∧ W'.cell? ⟨w2.heap.size, 4, none⟩ = some (.slice none 0 0) ∧ W'.cell? ⟨w2.heap.size, 5, none⟩ = some (.slice none 0 0)) (go_keep) (first | (go_at_call 25; refine (HIX.out _ HBD.out).mono ?_; rintro e w5 ⟨r, rfl, hres, hb5⟩; have HRS := Lib.hid hres; have HB5 := Lib.hid (HBD.out.trans (hb5.mono HBD.out.size)); have HR5 := Lib.hid (HRD.out.below hb5); obtain ⟨hc5', -⟩ := bcell hb5; have hc5 := fun o => hc5' w.heap.size o hlt3; have hd5 := fun o => hc5' w2.heap.size o hlt2; have hl5 : w2.heap.size < w5.heap.size := Nat.lt_of_lt_of_le hlt2 hb5.size; obtain ⟨rk, rh, rt, ral, rn, rcl, rak, rm, rck, rav, rq, rcv, rfl⟩ := hres.shape; clear hc5' hres hb5) | (go_at_call 23; refine (HGV.out _ _ _ HRS.out.is HR5.out).mono ?_; rintro e w6 ⟨rfl, hb6⟩; have HB6 := Lib.hid (HB5.out.trans (hb6.mono HB5.out.size)); obtain ⟨hc6', -⟩ := bcell hb6; have hc6 := fun o => hc6' w.heap.size o (by omega); have hd6 := fun o => hc6' w2.heap.size o hl5; clear hc6' hb6))
            go_wp2_with fail
            go_ret
            exact ⟨rfl, HB6.out⟩
          · have c0 : i < 0 := by omega
            have c1 : i < -(l.length : Int) := by omega
            have HNN := Lib.hid hn
            clear hn
            go_wp2_with fail
            refine wp_forget (IxS w (pickI l i) (.int .i64 5) (.int .i64 0) (.string ByteArray.empty) (.slice al l.length cl) (.slice ak 0 ck) (.slice av 0 cv) w2.heap.size (.int .i64 0) (.int .i64 0) (.string ByteArray.empty) (.slice none 0 0) (.slice none 0 0) (.slice none 0 0)) ⟨HB2.out.alloc HB2.out.size _, ⟨hy2, by simp⟩, (World.cell?_alloc_lt _ _ _ hy2).trans ((hc2 0).trans ((hc1 0).trans (by simp))), (World.cell?_alloc_lt _ _ _ hy2).trans ((hc2 1).trans ((hc1 1).trans (by simp))), (World.cell?_alloc_lt _ _ _ hy2).trans ((hc2 2).trans ((hc1 2).trans (by simp))), (World.cell?_alloc_lt _ _ _ hy2).trans ((hc2 3).trans ((hc1 3).trans (by simp))), (World.cell?_alloc_lt _ _ _ hy2).trans ((hc2 4).trans ((hc1 4).trans (by simp))), (World.cell?_alloc_lt _ _ _ hy2).trans ((hc2 5).trans ((hc1 5).trans (by simp))), by simp, by simp, by (simp; rfl), by simp, by simp, by simp, (by rw [pickI_none HNN.out]; exact rep_flat (by unfold I64; omega) (by unfold I64; omega) (by decide))⟩ ?_
            intro W HS
            have HSH := Lib.hid HS
            obtain ⟨-, ⟨hlt1, hlt2⟩, q0, q1, q2, q3, q4, q5, t0, t1, t2, t3, t4, t5, -⟩ := HS
            have HBD := Lib.hid HSH.out.below.drew
            have HRD := Lib.hid (HSH.out.rep.below (Below.refl _ W).drew)
            have hlt3 : w.heap.size < W.heap.size := by omega
            clear hc1 hc2
            go_region_held3 (fun W' : World => W'.cell? ⟨w.heap.size, 0, none⟩ = some (.int .i64 5) ∧ W'.cell? ⟨w.heap.size, 1, none⟩ = some (.int .i64 0) ∧ W'.cell? ⟨w.heap.size, 2, none⟩ = some (.string ByteArray.empty) ∧ W'.cell? ⟨w.heap.size, 3, none⟩ = some (.slice al l.length cl) ∧ W'.cell? ⟨w.heap.size, 4, none⟩ = some (.slice ak 0 ck) ∧ W'.cell? ⟨w.heap.size, 5, none⟩ = some (.slice av 0 cv) ∧ W'.cell? ⟨w2.heap.size, 0, none⟩ = some (.int .i64 0) ∧ W'.cell? ⟨w2.heap.size, 1, none⟩ = some (.int .i64 0) ∧ W'.cell? ⟨w2.heap.size, 2, none⟩ = some (.string ByteArray.empty) ∧ W'.cell? ⟨w2.heap.size, 3, none⟩ = some (.slice none 0 0) ∧ W'.cell? ⟨w2.heap.size, 4, none⟩ = some (.slice none 0 0) ∧ W'.cell? ⟨w2.heap.size, 5, none⟩ = some (.slice none 0 0)) (go_keep) (first | (go_at_call 25; refine (HIX.out _ HBD.out).mono ?_; rintro e w5 ⟨r, rfl, hres, hb5⟩; have HRS := Lib.hid hres; have HB5 := Lib.hid (HBD.out.trans (hb5.mono HBD.out.size)); have HR5 := Lib.hid (HRD.out.below hb5); obtain ⟨hc5', -⟩ := bcell hb5; have hc5 := fun o => hc5' w.heap.size o hlt3; have hd5 := fun o => hc5' w2.heap.size o hlt2; have hl5 : w2.heap.size < w5.heap.size := Nat.lt_of_lt_of_le hlt2 hb5.size; obtain ⟨rk, rh, rt, ral, rn, rcl, rak, rm, rck, rav, rq, rcv, rfl⟩ := hres.shape; clear hc5' hres hb5) | (go_at_call 23; refine (HGV.out _ _ _ HRS.out.is HR5.out).mono ?_; rintro e w6 ⟨rfl, hb6⟩; have HB6 := Lib.hid (HB5.out.trans (hb6.mono HB5.out.size)); obtain ⟨hc6', -⟩ := bcell hb6; have hc6 := fun o => hc6' w.heap.size o (by omega); have hd6 := fun o => hc6' w2.heap.size o hl5; clear hc6' hb6))
            go_wp2_with fail
            go_ret
            exact ⟨rfl, HB6.out⟩
      · go_wp2_with fail
        go_ret
        exact ⟨rfl, HB2.out⟩
end Go.Proofs.YtjpcdbopioblaaaDoor
