/- laws.FnMergeParts walked. -/
import Derived.Test.YtjpcdbopioblaaaDoorMergeImpl
import Derived.Test.YtjpcdbopioblaaaDoorMergeRow
import Derived.Test.YtjpcdbopioblaaaDoorRowsW
import Derived.Test.YtjpcdbopioblaaaDoorLawFits
import Derived.Test.YtjpcdbopioblaaaDoorSame
namespace Go.Proofs.YtjpcdbopioblaaaDoor
open Go.RowKit Go.WideMaps Go.Maps

/-- Two trees side by side. -/
theorem two_trees {w w2 : World} {a b : RV} {k h : Int} {t : ByteArray} {al ak av : Option Addr} {nl cl nk ck nv cv : Nat} {k2 h2 : Int} {t2 : ByteArray} {al2 ak2 av2 : Option Addr} {nl2 cl2 nk2 ck2 nv2 cv2 : Nat}
    (ha : a.Rep w (.agg #[.int .i64 k, .int .i64 h, .string t, .slice al nl cl, .slice ak nk ck, .slice av nv cv])) (hb : b.Rep w (.agg #[.int .i64 k2, .int .i64 h2, .string t2, .slice al2 nl2 cl2, .slice ak2 nk2 ck2, .slice av2 nv2 cv2])) (hw : Below w.heap.size w w2) :
    RV.RepL (w2.alloc (.cells #[.int .i64 k, .int .i64 h, .string t, .slice al nl cl, .slice ak nk ck, .slice av nv cv, .int .i64 k2, .int .i64 h2, .string t2, .slice al2 nl2 cl2, .slice ak2 nk2 ck2, .slice av2 nv2 cv2] 26)) (some ⟨w2.heap.size, 0, none⟩) 0 [a, b] := by
  have hb2 := hw.alloc hw.size (.cells #[.int .i64 k, .int .i64 h, .string t, .slice al nl cl, .slice ak nk ck, .slice av nv cv, .int .i64 k2, .int .i64 h2, .string t2, .slice al2 nl2 cl2, .slice ak2 nk2 ck2, .slice av2 nv2 cv2] 26)
  refine RV.RepL.of [a, b] 0 fun j hj => ?_
  match j, hj with
  | 0, _ => exact ⟨_, _, _, _, _, _, by simp, by simp, by simp, by simp, by simp, by simp, ha.below hb2⟩
  | 1, _ => exact ⟨_, _, _, _, _, _, by simp, by simp, by simp, by simp, by simp, by simp, hb.below hb2⟩

set_option maxRecDepth 100000 in
set_option maxHeartbeats 6400000 in
theorem fnMergeParts_law_at {a b : RV} {va vb : Value} {w : World} (ha : a.Rep w va) (hb : b.Rep w vb) (hT : Tabs w) :
    Calls Tryd.prog 7 #[va, vb] w fun e w' => e = .returned (.bool true) ∧ Below w.heap.size w w' := by
  have HA := Lib.hid ha
  have HB := Lib.hid hb
  have HT := Lib.hid hT
  have hsh : ∃ k h t al nl cl ak nk ck av nv cv, va = .agg #[.int .i64 k, .int .i64 h, .string t, .slice al nl cl, .slice ak nk ck, .slice av nv cv] ∧ a.kd = k := by
    obtain ⟨k, h, t, l, ks, vs⟩ := a
    unfold RV.Rep at ha
    obtain ⟨al, cl, ak, ck, av, cv, rfl, -⟩ := ha
    exact ⟨_, _, _, _, _, _, _, _, _, _, _, _, rfl, rfl⟩
  have hsh2 : ∃ k h t al nl cl ak nk ck av nv cv, vb = .agg #[.int .i64 k, .int .i64 h, .string t, .slice al nl cl, .slice ak nk ck, .slice av nv cv] ∧ b.kd = k := by
    obtain ⟨k, h, t, l, ks, vs⟩ := b
    unfold RV.Rep at hb
    obtain ⟨al, cl, ak, ck, av, cv, rfl, -⟩ := hb
    exact ⟨_, _, _, _, _, _, _, _, _, _, _, _, rfl, rfl⟩
  obtain ⟨k, h, t, al, nl, cl, ak, nk, ck, av, nv, cv, rfl, hka⟩ := hsh
  obtain ⟨k2, h2, t2, al2, nl2, cl2, ak2, nk2, ck2, av2, nv2, cv2, rfl, hkb⟩ := hsh2
  have HKA := Lib.hid (And.intro hka hkb)
  have H2 := Lib.hid (fun w2 (hw : Below w.heap.size w w2) => two_trees ha hb hw)
  have HF1 := Lib.hid (fun wx (hw : Below w.heap.size w wx) => fits1_any a _ wx (HA.out.below hw))
  have HF2 := Lib.hid (fun wx (hw : Below w.heap.size w wx) => fits1_any b _ wx (HB.out.below hw))
  have HBO := Lib.hid (fun o o' => ((Below.refl w.heap.size w).alloc (Nat.le_refl _) o).alloc (by simp) o')
  clear ha hb hT hka hkb
  go_enter Tryd.func7, Tryd.ntmps7
  go_wp2_with fail
  refine (HF1.out _ (HBO.out _ _)).mono ?_
  rintro e w1 ⟨⟨bf, rfl⟩, hb1⟩
  have HB1 := Lib.hid ((HBO.out _ _).trans (hb1.mono (by simp; omega)))
  obtain ⟨hc', hf'⟩ := bcell hb1
  have hz := hb1.size
  simp at hz
  have hy : w.heap.size + 1 < w1.heap.size := by omega
  have ha1 := fun o => hc' w.heap.size o (by first | (simp; done) | (simp; omega))
  have hb1' := fun o => hc' (w.heap.size + 1) o (by first | (simp; done) | (simp; omega))
  clear hc' hf' hz hb1
  cases bf
  · go_wp2_with fail
    go_ret
    exact ⟨rfl, HB1.out⟩
  go_wp2_with fail
  refine (HF2.out _ HB1.out).mono ?_
  rintro e w2 ⟨⟨bf, rfl⟩, hb2⟩
  have HB2 := Lib.hid (HB1.out.trans (hb2.mono HB1.out.size))
  obtain ⟨hc', -⟩ := bcell hb2
  have ha2 := fun o => hc' w.heap.size o (by omega)
  have hb2' := fun o => hc' (w.heap.size + 1) o hy
  have hy2 : w.heap.size + 1 < w2.heap.size := Nat.lt_of_lt_of_le hy hb2.size
  clear hc' hb2
  cases bf
  · go_wp2_with fail
    go_ret
    exact ⟨rfl, HB2.out⟩
  have hd2 : (w2.alloc (.cells #[.int .i64 k, .int .i64 h, .string t, .slice al nl cl, .slice ak nk ck, .slice av nv cv, .int .i64 k2, .int .i64 h2, .string t2, .slice al2 nl2 cl2, .slice ak2 nk2 ck2, .slice av2 nv2 cv2] 26)).heap.size = w2.heap.size + 1 := by simp
  have HB2a := Lib.hid (HB2.out.alloc HB2.out.size (.cells #[.int .i64 k, .int .i64 h, .string t, .slice al nl cl, .slice ak nk ck, .slice av nv cv, .int .i64 k2, .int .i64 h2, .string t2, .slice al2 nl2 cl2, .slice ak2 nk2 ck2, .slice av2 nv2 cv2] 26))
  have HFT := Lib.hid (fits_any [a, b] (some ⟨w2.heap.size, 0, none⟩) 2 _ (by show 2 ≤ reachN; decide) (HT.out.below HB2a.out) (H2.out w2 HB2.out))
  clear hd2
  go_wp2_with fail
  refine HFT.out.mono ?_
  rintro e w3 ⟨bf, rfl, hb3, hq⟩
  have HB3 := Lib.hid (HB2a.out.trans (hb3.mono HB2a.out.size))
  have HQ := Lib.hid hq
  obtain ⟨hc', -⟩ := bcell hb3
  have ha3 := fun o => (hc' w.heap.size o (by simp; omega)).trans (((Below.refl _ w2).alloc (Nat.le_refl _) _).cell (p := ⟨w.heap.size, o, none⟩) (by show w.heap.size < w2.heap.size; omega))
  have hb3' := fun o => (hc' (w.heap.size + 1) o (by simp; omega)).trans (((Below.refl _ w2).alloc (Nat.le_refl _) _).cell (p := ⟨w.heap.size + 1, o, none⟩) hy2)
  have hy3 : w.heap.size + 1 < w3.heap.size := Nat.lt_of_lt_of_le (by simp; omega) hb3.size
  clear hc' hb3 hq
  cases bf
  · go_wp2_with fail
    go_ret
    exact ⟨rfl, HB3.out⟩
  have hq0 := HQ.out rfl 0 (by simp)
  have hq1 := HQ.out rfl 1 (by simp)
  simp only [List.getElem_cons_zero, List.getElem_cons_succ] at hq0 hq1
  have HGA := Lib.hid hq0
  have HGB := Lib.hid hq1
  clear HQ hq0 hq1
  by_cases hk : k = 6
  · subst hk
    by_cases hk2 : k2 = 6
    · subst hk2
      have HMG := Lib.hid (fun wx (hw : Below w.heap.size w wx) => implMerge_any a b _ _ wx HGA.out.1 HGB.out.1 HKA.out.1 HKA.out.2 HGA.out.2.1 HGB.out.2.1 (by have := HGA.out.2.2; omega) (by have := HGB.out.2.2; omega) (HA.out.below hw) (HB.out.below hw))
      go_wp2_with fail
      refine (HMG.out _ HB3.out).mono ?_
      rintro e w4 ⟨c, hmc, r, rfl, hrc, hb4⟩
      have HMC := Lib.hid hmc
      obtain ⟨ks, zs, rfl, hku, hkz, hmem, hat⟩ := hmc
      have HMM := Lib.hid (And.intro hmem hat)
      have hrs := hrc.is
      have HB4 := Lib.hid (HB3.out.trans (hb4.mono HB3.out.size))
      obtain ⟨hc', -⟩ := bcell hb4
      have ha4 := fun o => hc' w.heap.size o (by omega)
      have hb4' := fun o => hc' (w.heap.size + 1) o hy3
      have hy4 : w.heap.size + 1 < w4.heap.size := Nat.lt_of_lt_of_le hy3 hb4.size
      obtain ⟨rk, rh, rt, ral, rn, rcl, rak, rm, rck, rav, rq, rcv, rfl, hcrep⟩ := hrs
      have HCR := Lib.hid hcrep
      unfold RV.Rep at hcrep
      obtain ⟨al', cl', ak', ck', av', cv', he, -, -, -, -, hkr, hvr, -, -, -⟩ := hcrep
      simp only [Value.agg.injEq, Array.mk.injEq, List.cons.injEq, Value.int.injEq, Value.string.injEq, Value.slice.injEq, true_and, and_true] at he
      obtain ⟨rfl, rfl, rfl, ⟨rfl, rfl, rfl⟩, ⟨rfl, rfl, rfl⟩, rfl, rfl, rfl⟩ := he
      have HKZ := Lib.hid hkz
      have HKU := Lib.hid hku
      clear hc' hb4 hmem hat hrc hkz hku
      have HN := Lib.hid (show LWm w a b ks zs w.heap.size w4.heap.size (.int .i64 6) (.int .i64 h) (.string t) (.slice al nl cl) (.slice ak nk ck) (.slice av nv cv) (.int .i64 6) (.int .i64 h2) (.string t2) (.slice al2 nl2 cl2) (.slice ak2 nk2 ck2) (.slice av2 nv2 cv2) (.int .i64 6) (.int .i64 0) (.string ByteArray.empty) (.slice ral 0 rcl) rak rck rav rcv (.int .i64 0) (w4.alloc (.cells #[.int .i64 6, .int .i64 0, .string ByteArray.empty, .slice ral 0 rcl, .slice rak ks.length rck, .slice rav zs.length rcv, .int .i64 0] 46)) from by
        have hb5 : Below w4.heap.size w4 (w4.alloc (.cells #[.int .i64 6, .int .i64 0, .string ByteArray.empty, .slice ral 0 rcl, .slice rak ks.length rck, .slice rav zs.length rcv, .int .i64 0] 46)) := (Below.refl _ _).alloc (Nat.le_refl _) _
        have hB := HB4.out.trans (hb5.mono HB4.out.size)
        have hrc := HCR.out.below hb5
        refine ⟨hB, hy4, by simp, ?_, HA.out.below hB, HB.out.below hB, hrc, ?_, ?_⟩
        · unfold CellsM
          have hA : ∀ o O, (w4.alloc O).cell? ⟨w.heap.size, o, none⟩ = ((w.alloc (.cells #[.int .i64 6, .int .i64 h, .string t, .slice al nl cl, .slice ak nk ck, .slice av nv cv] 26)).alloc (.cells #[.int .i64 6, .int .i64 h2, .string t2, .slice al2 nl2 cl2, .slice ak2 nk2 ck2, .slice av2 nv2 cv2] 26)).cell? ⟨w.heap.size, o, none⟩ := fun o O => by
            rw [World.cell?_alloc_lt _ _ _ (show w.heap.size < w4.heap.size by omega), ha4, ha3, ha2, ha1]
          have hB : ∀ o O, (w4.alloc O).cell? ⟨w.heap.size + 1, o, none⟩ = ((w.alloc (.cells #[.int .i64 6, .int .i64 h, .string t, .slice al nl cl, .slice ak nk ck, .slice av nv cv] 26)).alloc (.cells #[.int .i64 6, .int .i64 h2, .string t2, .slice al2 nl2 cl2, .slice ak2 nk2 ck2, .slice av2 nv2 cv2] 26)).cell? ⟨w.heap.size + 1, o, none⟩ := fun o O => by
            rw [World.cell?_alloc_lt _ _ _ (show w.heap.size + 1 < w4.heap.size by omega), hb4', hb3', hb2', hb1']
          simp only [hA, hB]
          refine ⟨?_, ?_, ?_, ?_, ?_, ?_, ?_, ?_, ?_, ?_, ?_, ?_, ?_, ?_, ?_, ?_, ?_, ?_, ?_⟩ <;> simp
        · unfold RV.Rep at hrc
          obtain ⟨_, _, _, _, _, _, he, -, -, -, -, -, -, -, hk, -⟩ := hrc
          simp only [Value.agg.injEq, Array.mk.injEq, List.cons.injEq, Value.slice.injEq, true_and, and_true] at he
          obtain ⟨-, ⟨rfl, -⟩, -⟩ := he
          exact hk
        · unfold RV.Rep at hrc
          obtain ⟨_, _, _, _, _, _, he, -, -, -, -, -, -, -, -, hk⟩ := hrc
          simp only [Value.agg.injEq, Array.mk.injEq, List.cons.injEq, Value.slice.injEq, true_and, and_true] at he
          obtain ⟨-, -, rfl, -⟩ := he
          exact hk)
      have HMR := Lib.hid (HMC.out.right HGA.out.1 HGB.out.1).1
      unfold reachN at hkr hvr
      go_wp2_with fail
      go_loopg [52] ks.length (fun gk s52 wr => ∃ i : Nat, s52 = .int .i64 i ∧ i ≤ ks.length ∧ gk = ks.length - i ∧ Hid (LWm w a b ks zs w.heap.size w4.heap.size (.int .i64 6) (.int .i64 h) (.string t) (.slice al nl cl) (.slice ak nk ck) (.slice av nv cv) (.int .i64 6) (.int .i64 h2) (.string t2) (.slice al2 nl2 cl2) (.slice ak2 nk2 ck2) (.slice av2 nv2 cv2) (.int .i64 6) (.int .i64 0) (.string ByteArray.empty) (.slice ral 0 rcl) rak rck rav rcv (.int .i64 0) wr))
      case atStart => exact ⟨0, rfl, Nat.zero_le _, rfl, HN⟩
      case round =>
        obtain ⟨i, rfl, hi, rfl, HL⟩ := hrel
        clear ha1 hb1' ha2 hb2' ha3 hb3' ha4 hb4'
        by_cases hlt : i < ks.length
        · obtain ⟨kb, ko, rfl, -, gk⟩ := HL.out.rk.get i hlt
          have hltz : i < zs.length := by have := HKZ.out; omega
          obtain ⟨vb, vo, c0, c1, c2, c3, c4, c5, rfl, ge0, ge1, ge2, ge3, ge4, ge5, hrz⟩ := HL.out.rv.get i hltz
          simp only [Nat.zero_add] at gk ge0 ge1 ge2 ge3 ge4 ge5
          have hj : (i : Int) < (ks.length : Int) := by omega
          have hjz : (i : Int) < (zs.length : Int) := by omega
          clear hi
          go_wp2_with fail
          have HLd := Lib.hid (HL.out.kept (Below.refl _ wr).drew)
          have HE := Lib.hid (CellsE.kept (W := wr) (W' := wr.drew) ⟨ge0, ge1, ge2, ge3, ge4, ge5⟩ (Below.refl _ wr).drew)
          have HZ := Lib.hid (hrz.below (Below.refl _ wr).drew)
          obtain ⟨zk, zh, zt, zal, znl, zcl, zak, znk, zck, zav, znv, zcv, rfl, rfl, rfl, rfl, rfl, rfl⟩ := hrz.shape
          clear ge0 ge1 ge2 ge3 ge4 ge5 hrz gk HL
          refine wp_region_held_drew (S := fun W => Below wr.drew.heap.size wr.drew W) (by kernel_rfl) (Below.refl _ _) fun _ => ?_
          generalize wr.drew = W0 at HLd HE HZ ⊢
          have HTK := Lib.hid (fun W (hS : Below W0.heap.size W0 W) => And.intro (HLd.out.kept hS).cells (HE.out.kept hS))
          refine wpAnyH_take (oi := ⟨some 57, _, _, _, _, _⟩) (i := 0) (v := ?v0) rfl (by kernel_rfl) (by kernel_rfl) (by kernel_rfl) (fun _ _ _ h => h) (Or.inl ⟨by rfl, ?y0⟩) (Below.refl _ _) ?r0
          case y0 => (intro W hS; obtain ⟨⟨q0, q1, q2, q3, q4, q5, q6, q7, q8, q9, q10, q11, q12, q13, q14, q15, q16, q17, q18⟩, q19, q20, q21, q22, q23, q24⟩ := HTK.out W hS; clear hS; go_simp; try with_reducible rfl)
          try simp only [Act.put, List.setIfInBounds_toArray, List.set_cons_zero, List.set_cons_succ]
          refine wpAnyH_take (oi := ⟨some 58, _, _, _, _, _⟩) (i := 1) (v := ?v1) rfl (by kernel_rfl) (by kernel_rfl) (by kernel_rfl) (fun _ _ _ h => h) (Or.inl ⟨by rfl, ?y1⟩) (Below.refl _ _) ?r1
          case y1 => (intro W hS; obtain ⟨⟨q0, q1, q2, q3, q4, q5, q6, q7, q8, q9, q10, q11, q12, q13, q14, q15, q16, q17, q18⟩, q19, q20, q21, q22, q23, q24⟩ := HTK.out W hS; clear hS; go_simp; try with_reducible rfl)
          try simp only [Act.put, List.setIfInBounds_toArray, List.set_cons_zero, List.set_cons_succ]
          refine wpAnyH_take (oi := ⟨some 60, _, _, _, _, _⟩) (i := 3) (v := ?v3) rfl (by kernel_rfl) (by kernel_rfl) (by kernel_rfl) (fun _ _ _ h => h) (Or.inl ⟨by rfl, ?y3⟩) (Below.refl _ _) ?r3
          case y3 => (intro W hS; obtain ⟨⟨q0, q1, q2, q3, q4, q5, q6, q7, q8, q9, q10, q11, q12, q13, q14, q15, q16, q17, q18⟩, q19, q20, q21, q22, q23, q24⟩ := HTK.out W hS; clear hS; go_simp; try with_reducible rfl)
          try simp only [Act.put, List.setIfInBounds_toArray, List.set_cons_zero, List.set_cons_succ]
          refine wpAnyH_take (oi := ⟨some 61, _, _, _, _, _⟩) (i := 4) (v := ?v4) rfl (by kernel_rfl) (by kernel_rfl) (by kernel_rfl) (fun _ _ _ h => h) (Or.inl ⟨by rfl, ?y4⟩) (Below.refl _ _) ?r4
          case y4 => (intro W hS; obtain ⟨⟨q0, q1, q2, q3, q4, q5, q6, q7, q8, q9, q10, q11, q12, q13, q14, q15, q16, q17, q18⟩, q19, q20, q21, q22, q23, q24⟩ := HTK.out W hS; clear hS; go_simp; try with_reducible rfl)
          try simp only [Act.put, List.setIfInBounds_toArray, List.set_cons_zero, List.set_cons_succ]
          refine wpAnyH_take (oi := ⟨some 63, _, _, _, _, _⟩) (i := 6) (v := ?v6) rfl (by kernel_rfl) (by kernel_rfl) (by kernel_rfl) (fun _ _ _ h => h) (Or.inl ⟨by rfl, ?y6⟩) (Below.refl _ _) ?r6
          case y6 => (intro W hS; obtain ⟨⟨q0, q1, q2, q3, q4, q5, q6, q7, q8, q9, q10, q11, q12, q13, q14, q15, q16, q17, q18⟩, q19, q20, q21, q22, q23, q24⟩ := HTK.out W hS; clear hS; go_simp; try with_reducible rfl)
          try simp only [Act.put, List.setIfInBounds_toArray, List.set_cons_zero, List.set_cons_succ]
          refine wpAnyH_take (oi := ⟨some 64, _, _, _, _, _⟩) (i := 7) (v := ?v7) rfl (by kernel_rfl) (by kernel_rfl) (by kernel_rfl) (fun _ _ _ h => h) (Or.inl ⟨by rfl, ?y7⟩) (Below.refl _ _) ?r7
          case y7 => (intro W hS; obtain ⟨⟨q0, q1, q2, q3, q4, q5, q6, q7, q8, q9, q10, q11, q12, q13, q14, q15, q16, q17, q18⟩, q19, q20, q21, q22, q23, q24⟩ := HTK.out W hS; clear hS; go_simp; try with_reducible rfl)
          try simp only [Act.put, List.setIfInBounds_toArray, List.set_cons_zero, List.set_cons_succ]
          refine wpAnyH_take (oi := ⟨some 65, _, _, _, _, _⟩) (i := 8) (v := ?v8) rfl (by kernel_rfl) (by kernel_rfl) (by kernel_rfl) (fun _ _ _ h => h) (Or.inl ⟨by rfl, ?y8⟩) (Below.refl _ _) ?r8
          case y8 => (intro W hS; obtain ⟨⟨q0, q1, q2, q3, q4, q5, q6, q7, q8, q9, q10, q11, q12, q13, q14, q15, q16, q17, q18⟩, q19, q20, q21, q22, q23, q24⟩ := HTK.out W hS; clear hS; go_simp; try with_reducible rfl)
          try simp only [Act.put, List.setIfInBounds_toArray, List.set_cons_zero, List.set_cons_succ]
          refine wpAnyH_take (oi := ⟨some 66, _, _, _, _, _⟩) (i := 9) (v := ?v9) rfl (by kernel_rfl) (by kernel_rfl) (by kernel_rfl) (fun _ _ _ h => h) (Or.inl ⟨by rfl, ?y9⟩) (Below.refl _ _) ?r9
          case y9 => (intro W hS; obtain ⟨⟨q0, q1, q2, q3, q4, q5, q6, q7, q8, q9, q10, q11, q12, q13, q14, q15, q16, q17, q18⟩, q19, q20, q21, q22, q23, q24⟩ := HTK.out W hS; clear hS; go_simp; try with_reducible rfl)
          try simp only [Act.put, List.setIfInBounds_toArray, List.set_cons_zero, List.set_cons_succ]
          refine wpAnyH_take (oi := ⟨some 67, _, _, _, _, _⟩) (i := 10) (v := ?v10) rfl (by kernel_rfl) (by kernel_rfl) (by kernel_rfl) (fun _ _ _ h => h) (Or.inl ⟨by rfl, ?y10⟩) (Below.refl _ _) ?r10
          case y10 => (intro W hS; obtain ⟨⟨q0, q1, q2, q3, q4, q5, q6, q7, q8, q9, q10, q11, q12, q13, q14, q15, q16, q17, q18⟩, q19, q20, q21, q22, q23, q24⟩ := HTK.out W hS; clear hS; go_simp; try with_reducible rfl)
          try simp only [Act.put, List.setIfInBounds_toArray, List.set_cons_zero, List.set_cons_succ]
          refine wpAnyH_take (oi := ⟨some 68, _, _, _, _, _⟩) (i := 11) (v := ?v11) rfl (by kernel_rfl) (by kernel_rfl) (by kernel_rfl) (fun _ _ _ h => h) (Or.inl ⟨by rfl, ?y11⟩) (Below.refl _ _) ?r11
          case y11 => (intro W hS; obtain ⟨⟨q0, q1, q2, q3, q4, q5, q6, q7, q8, q9, q10, q11, q12, q13, q14, q15, q16, q17, q18⟩, q19, q20, q21, q22, q23, q24⟩ := HTK.out W hS; clear hS; go_simp; try with_reducible rfl)
          try simp only [Act.put, List.setIfInBounds_toArray, List.set_cons_zero, List.set_cons_succ]
          refine wpAnyH_relist (l' := L5 false false false false false) (by kernel_rfl) ?_
          refine region_get2 (A := a) (B := b) (W0 := W0) (key := ks[i]) (vA := .agg #[.int .i64 6, .int .i64 h, .string t, .slice al nl cl, .slice ak nk ck, .slice av nv cv]) (vB := .agg #[.int .i64 6, .int .i64 h2, .string t2, .slice al2 nl2 cl2, .slice ak2 nk2 ck2, .slice av2 nv2 cv2]) rfl rfl rfl rfl rfl ?p2 ?q2 ?r2 ?p5 ?q5 ?r5 ?p12 ?q12 ?r12 ?p13 ?q13 ?r13 ?p14 ?q14 ?r14 ?hr ?e57 ?e58 ?e60 ?e61 HLd.out.ra HLd.out.rb HGA.out.1 HGB.out.1 rfl (Below.refl _ _) u8 u9 u10 u59 u62 ?hput ?hfin
          case p2 => rfl
          case q2 => rfl
          case r2 => rfl
          case p5 => rfl
          case q5 => rfl
          case r5 => rfl
          case p12 => rfl
          case q12 => rfl
          case r12 => rfl
          case p13 => rfl
          case q13 => rfl
          case r13 => rfl
          case p14 => rfl
          case q14 => rfl
          case r14 => rfl
          case hr => decide +kernel
          case e57 => simp
          case e58 => simp
          case e60 => simp
          case e61 => simp
          case hput => simp only [puts5, List.setIfInBounds_toArray, List.set_cons_zero, List.set_cons_succ]
          intro v59 v62 p8 p9 p10 W hB n8 n9 n10 d89 d80 d90 g1 g2
          obtain ⟨x, hx, hxo⟩ := g1
          obtain ⟨y, hy, hyo⟩ := g2
          obtain ⟨xk, xh, xt, xal, xnl, xcl, xak, xnk, xck, xav, xnv, xcv, rfl, hxk⟩ := rep_agg hx
          obtain ⟨yk, yh, yt, yal, ynl, ycl, yak, ynk, yck, yav, ynv, ycv, rfl, hyk⟩ := rep_agg hy
          have HXO := Lib.hid hxo
          have HYO := Lib.hid hyo
          have HXY := Lib.hid (And.intro hx hy)
          have HXK := Lib.hid (And.intro hxk hyk)
          clear hxo hyo hx hy hxk hyk HTK
          refine stores3 (p8 := p8) (p9 := p9) (p10 := p10) (v8 := #[.int .i64 xk, .int .i64 xh, .string xt, .slice xal xnl xcl, .slice xak xnk xck, .slice xav xnv xcv]) (v9 := #[.int .i64 yk, .int .i64 yh, .string yt, .slice yal ynl ycl, .slice yak ynk yck, .slice yav ynv ycv]) (v10 := #[.int .i64 zk, .int .i64 zh, .string zt, .slice zal znl zcl, .slice zak znk zck, .slice zav znv zcv]) rfl rfl rfl ?p15 ?q15 ?r15 ?p16 ?q16 ?r16 ?p17 ?q17 ?r17 ?hr1 ?hr2 ?hr3 ?hr4 ?s8 ?s9 ?s10 ?t8 ?t9 ?t10 rfl rfl rfl ?o8 ?o9 ?o10 n8 n9 n10 d89 d80 d90 hB.size (fun W' h => hB.trans h) ?hend
          case p15 => rfl
          case q15 => rfl
          case r15 => rfl
          case p16 => rfl
          case q16 => rfl
          case r16 => rfl
          case p17 => rfl
          case q17 => rfl
          case r17 => rfl
          case hr1 => decide +kernel
          case hr2 => decide +kernel
          case hr3 => decide +kernel
          case hr4 => decide +kernel
          case s8 => simp [puts5, Act.eval]
          case s9 => simp [puts5, Act.eval]
          case s10 => simp [puts5, Act.eval]
          case t8 => simp [puts5, Act.eval]
          case t9 => simp [puts5, Act.eval]
          case t10 => simp [puts5, Act.eval]
          case o8 => simp [Value.oneCell']
          case o9 => simp [Value.oneCell']
          case o10 => simp [Value.oneCell']
          intro W' hb' b8 b9 b10
          have HLW := Lib.hid (HLd.out.kept (hB.trans hb'))
          have HRW := Lib.hid (RWm.mk (Lw := LWm w a b ks zs w.heap.size w4.heap.size (.int .i64 6) (.int .i64 h) (.string t) (.slice al nl cl) (.slice ak nk ck) (.slice av nv cv) (.int .i64 6) (.int .i64 h2) (.string t2) (.slice al2 nl2 cl2) (.slice ak2 nk2 ck2) (.slice av2 nv2 cv2) (.int .i64 6) (.int .i64 0) (.string ByteArray.empty) (.slice ral 0 rcl) (some ⟨kb, ko, none⟩) rck (some ⟨vb, vo, none⟩) rcv (.int .i64 0)) HLW.out (CellsV.of b8) (CellsV.of b9) (CellsV.of b10) (HXY.out.1.below (hB.trans hb')) (HXY.out.2.below (hB.trans hb')) (HZ.out.below (hB.trans hb')))
          clear HLd HE HZ HLW HXY n8 n9 n10 d89 d80 d90 b8 b9 b10 hB hb'
          simp only [puts5, List.setIfInBounds_toArray, List.set_cons_zero, List.set_cons_succ]
          clear W0 W
          --LOOP1
          have HMF := Lib.hid (merge_at HMC.out hlt hltz HGA.out.1 HGB.out.1 HXO.out HYO.out HMR.out)
          have HGX := Lib.hid HMF.out.2.2.2.2.1
          have HGY := Lib.hid HMF.out.2.2.2.2.2.1
          have HGZ := Lib.hid HMF.out.2.2.2.2.2.2
          obtain ⟨a0, a1, a2, a3, a4, a5, b0, b1, b2, b3, b4, b5, r0, r1, r2, r3, r4, r5, r6⟩ := HRW.out.lw.cells
          obtain ⟨x0, x1, x2, x3, x4, x5⟩ := HRW.out.c8
          obtain ⟨y0, y1, y2, y3, y4, y5⟩ := HRW.out.c9
          obtain ⟨z0, z1, z2, z3, z4, z5⟩ := HRW.out.c10
          go_wp2_with fail
          refine (has_any a _ ks[i] _ HRW.out.lw.ra HGA.out.1.keys.1).mono ?_
          rintro e w5 ⟨bb, rfl, hb5, hbt, hbf⟩
          have H5 := Lib.hid (HRW.out.kept (fun _ _ h hb => h.kept hb) hb5)
          clear a0 a1 a2 a3 a4 a5 b0 b1 b2 b3 b4 b5 r0 r1 r2 r3 r4 r5 r6 x0 x1 x2 x3 x4 x5 y0 y1 y2 y3 y4 y5 z0 z1 z2 z3 z4 z5
          clear hb5
          obtain ⟨a0, a1, a2, a3, a4, a5, b0, b1, b2, b3, b4, b5, r0, r1, r2, r3, r4, r5, r6⟩ := H5.out.lw.cells
          obtain ⟨x0, x1, x2, x3, x4, x5⟩ := H5.out.c8
          obtain ⟨y0, y1, y2, y3, y4, y5⟩ := H5.out.c9
          obtain ⟨z0, z1, z2, z3, z4, z5⟩ := H5.out.c10
          cases bb
          · have HNA := Lib.hid (hbf rfl)
            clear hbt hbf
            go_wp2_with fail
            refine (has_any b _ ks[i] _ H5.out.lw.rb HGB.out.1.keys.1).mono ?_
            rintro e w6 ⟨bb, rfl, hb6, hbt, hbf⟩
            have H6 := Lib.hid (H5.out.kept (fun _ _ h hb => h.kept hb) hb6)
            clear a0 a1 a2 a3 a4 a5 b0 b1 b2 b3 b4 b5 r0 r1 r2 r3 r4 r5 r6 x0 x1 x2 x3 x4 x5 y0 y1 y2 y3 y4 y5 z0 z1 z2 z3 z4 z5
            clear hb6
            cases bb
            case false => exact absurd (HMF.out.1.resolve_left HNA.out) (hbf rfl)
            clear hbt hbf
            obtain ⟨a0, a1, a2, a3, a4, a5, b0, b1, b2, b3, b4, b5, r0, r1, r2, r3, r4, r5, r6⟩ := H6.out.lw.cells
            obtain ⟨x0, x1, x2, x3, x4, x5⟩ := H6.out.c8
            obtain ⟨y0, y1, y2, y3, y4, y5⟩ := H6.out.c9
            obtain ⟨z0, z1, z2, z3, z4, z5⟩ := H6.out.c10
            by_cases hx6 : xk = 6
            · subst hx6
              by_cases hy6 : yk = 6
              · subst hy6
                go_wp2_with fail
                have H0 := Lib.hid (H6.out.kept (fun _ _ h hb => h.kept hb) (Below.refl _ w6).drew)
                clear a0 a1 a2 a3 a4 a5 b0 b1 b2 b3 b4 b5 r0 r1 r2 r3 r4 r5 r6 x0 x1 x2 x3 x4 x5 y0 y1 y2 y3 y4 y5 z0 z1 z2 z3 z4 z5
                refine wp_region_held_drew (S := fun W => Below w6.drew.heap.size w6.drew W) (by kernel_rfl) (Below.refl _ _) fun _ => ?_
                generalize w6.drew = W0 at H0 ⊢
                have HTK := Lib.hid (fun W (hS : Below W0.heap.size W0 W) => And.intro (H0.out.c8.kept hS) (And.intro (H0.out.c9.kept hS) (H0.out.c10.kept hS)))
                refine wpAnyH_take (oi := ⟨some 89, _, _, _, _, _⟩) (i := 0) (v := ?mb0) rfl (by kernel_rfl) (by kernel_rfl) (by kernel_rfl) (fun _ _ _ h => h) (Or.inl ⟨by rfl, ?nb0⟩) (Below.refl _ _) ?ob0
                case nb0 => (intro W hS; obtain ⟨⟨q0, q1, q2, q3, q4, q5⟩, ⟨q6, q7, q8, q9, q10, q11⟩, q12, q13, q14, q15, q16, q17⟩ := HTK.out W hS; clear hS; go_simp; try with_reducible rfl)
                try simp only [Act.put, List.setIfInBounds_toArray, List.set_cons_zero, List.set_cons_succ]
                refine wpAnyH_take (oi := ⟨some 90, _, _, _, _, _⟩) (i := 1) (v := ?mb1) rfl (by kernel_rfl) (by kernel_rfl) (by kernel_rfl) (fun _ _ _ h => h) (Or.inl ⟨by rfl, ?nb1⟩) (Below.refl _ _) ?ob1
                case nb1 => (intro W hS; obtain ⟨⟨q0, q1, q2, q3, q4, q5⟩, ⟨q6, q7, q8, q9, q10, q11⟩, q12, q13, q14, q15, q16, q17⟩ := HTK.out W hS; clear hS; go_simp; try with_reducible rfl)
                try simp only [Act.put, List.setIfInBounds_toArray, List.set_cons_zero, List.set_cons_succ]
                refine wpAnyH_take (oi := ⟨some 92, _, _, _, _, _⟩) (i := 3) (v := ?mb3) rfl (by kernel_rfl) (by kernel_rfl) (by kernel_rfl) (fun _ _ _ h => h) (Or.inl ⟨by rfl, ?nb3⟩) (Below.refl _ _) ?ob3
                case nb3 => (intro W hS; obtain ⟨⟨q0, q1, q2, q3, q4, q5⟩, ⟨q6, q7, q8, q9, q10, q11⟩, q12, q13, q14, q15, q16, q17⟩ := HTK.out W hS; clear hS; go_simp; try with_reducible rfl)
                try simp only [Act.put, List.setIfInBounds_toArray, List.set_cons_zero, List.set_cons_succ]
                refine wpAnyH_all (rs := [2]) (by decide +kernel) (by simp) fun j hj => ?_
                rw [List.mem_singleton] at hj
                subst hj
                refine op_call2 (o := ⟨some 91, _, _, _, _, _⟩) (vx := .agg #[.int .i64 6, .int .i64 xh, .string xt, .slice xal xnl xcl, .slice xak xnk xck, .slice xav xnv xcv]) (vy := .agg #[.int .i64 6, .int .i64 yh, .string yt, .slice yal ynl ycl, .slice yak ynk yck, .slice yav ynv ycv]) rfl rfl rfl (by simp [Act.eval]) (by simp [Act.eval]) (enters_of Tryd.func26 (by kernel_rfl) rfl) ?_
                have hmf := HMF.out.2.1 HXK.out.1 HXK.out.2
                have hsx := RV.AtR.small HGA.out.1 hmf.1
                have hsy := RV.AtR.small HGB.out.1 hmf.2.1
                refine (implMerge_any x y _ _ W0 HGX.out HGY.out HXK.out.1 HXK.out.2 (Nat.le_trans hsx.1 HGA.out.2.1) (Nat.le_trans hsy.1 HGB.out.2.1) (Nat.le_trans hsx.2 (by have := HGA.out.2.2; omega)) (Nat.le_trans hsy.2 (by have := HGB.out.2.2; omega)) H0.out.rx H0.out.ry).mono ?_
                rintro e w7 ⟨c', hm', r, rfl, hrc, hb7⟩
                have hz' : c' = zs[i] := MergeN.det HGX.out HGY.out hm' hmf.2.2
                subst hz'
                refine ⟨_, rfl, hb7, ?_⟩
                try simp only [Act.put, List.setIfInBounds_toArray, List.set_cons_zero, List.set_cons_succ]
                refine wpAnyH_all (rs := [4]) (by decide +kernel) (by simp) fun j hj => ?_
                rw [List.mem_singleton] at hj
                subst hj
                refine op_call2 (o := ⟨some 93, _, _, _, _, _⟩) (vx := r) (vy := .agg #[.int .i64 zk, .int .i64 zh, .string zt, .slice zal znl zcl, .slice zak znk zck, .slice zav znv zcv]) rfl rfl rfl (by simp [Act.eval]) (by simp [Act.eval]) (enters_of Tryd.func23 (by kernel_rfl) rfl) ?_
                refine (given_any zs[i] r _ w7 HGZ.out hrc.is (H0.out.rz.below hb7)).mono ?_
                rintro e w8 ⟨rfl, hb8⟩
                have hB8 := hb7.trans (hb8.mono hb7.size)
                have H8 := Lib.hid (H0.out.kept (fun _ _ h hb => h.kept hb) hB8)
                refine ⟨_, rfl, hB8, ?_⟩
                try simp only [Act.put, List.setIfInBounds_toArray, List.set_cons_zero, List.set_cons_succ]
                refine wpAnyH_take (oi := ⟨some 94, _, _, _, _, _⟩) (i := 5) (v := .bool false) rfl (by kernel_rfl) (by kernel_rfl) (by kernel_rfl) (fun _ _ _ h => h) (Or.inl ⟨by rfl, ?nb5⟩) hB8 ?ob5
                case nb5 => (intro W hS; clear hS; go_simp; try with_reducible rfl)
                try simp only [Act.put, List.setIfInBounds_toArray, List.set_cons_zero, List.set_cons_succ]
                refine wpAnyH_done (by decide +kernel) ?_ _
                clear hB8 hb8 hb7 hrc hm' hmf hsx hsy HTK H0
                obtain ⟨a0, a1, a2, a3, a4, a5, b0, b1, b2, b3, b4, b5, r0, r1, r2, r3, r4, r5, r6⟩ := H8.out.lw.cells
                obtain ⟨x0, x1, x2, x3, x4, x5⟩ := H8.out.c8
                obtain ⟨y0, y1, y2, y3, y4, y5⟩ := H8.out.c9
                obtain ⟨z0, z1, z2, z3, z4, z5⟩ := H8.out.c10
                go_wp2_with fail
                go_roundg (ks.length - (i + 1))
                case measure => omega
                case rel => exact ⟨i + 1, by go_num, by omega, rfl, Lib.hid H8.out.lw⟩
              · have hnb : ¬ (x.kd = 6 ∧ y.kd = 6) := fun h => hy6 (HXK.out.2.symm.trans h.2)
                have HNB := Lib.hid hnb
                have hy6' : (yk == 6) = false := by simp [hy6]
                clear hnb hy6
                go_wp2_with fail
                refine (has_any b _ ks[i] _ H6.out.lw.rb HGB.out.1.keys.1).mono ?_
                rintro e w7 ⟨bb, rfl, hb7, hbt, hbf⟩
                have H7 := Lib.hid (H6.out.kept (fun _ _ h hb => h.kept hb) hb7)
                clear a0 a1 a2 a3 a4 a5 b0 b1 b2 b3 b4 b5 r0 r1 r2 r3 r4 r5 r6 x0 x1 x2 x3 x4 x5 y0 y1 y2 y3 y4 y5 z0 z1 z2 z3 z4 z5
                clear hb7
                obtain ⟨a0, a1, a2, a3, a4, a5, b0, b1, b2, b3, b4, b5, r0, r1, r2, r3, r4, r5, r6⟩ := H7.out.lw.cells
                obtain ⟨x0, x1, x2, x3, x4, x5⟩ := H7.out.c8
                obtain ⟨y0, y1, y2, y3, y4, y5⟩ := H7.out.c9
                obtain ⟨z0, z1, z2, z3, z4, z5⟩ := H7.out.c10
                cases bb
                · have HBT := Lib.hid (hbf rfl)
                  clear hbt hbf
                  go_wp2_with fail
                  refine (has_any b _ ks[i] _ H7.out.lw.rb HGB.out.1.keys.1).mono ?_
                  rintro e w8 ⟨bb, rfl, hb8, hbt, hbf⟩
                  have H8 := Lib.hid (H7.out.kept (fun _ _ h hb => h.kept hb) hb8)
                  clear a0 a1 a2 a3 a4 a5 b0 b1 b2 b3 b4 b5 r0 r1 r2 r3 r4 r5 r6 x0 x1 x2 x3 x4 x5 y0 y1 y2 y3 y4 y5 z0 z1 z2 z3 z4 z5
                  clear hb8
                  cases bb
                  case true => exact absurd (hbt rfl) HBT.out
                  clear hbt hbf
                  obtain ⟨a0, a1, a2, a3, a4, a5, b0, b1, b2, b3, b4, b5, r0, r1, r2, r3, r4, r5, r6⟩ := H8.out.lw.cells
                  obtain ⟨x0, x1, x2, x3, x4, x5⟩ := H8.out.c8
                  obtain ⟨y0, y1, y2, y3, y4, y5⟩ := H8.out.c9
                  obtain ⟨z0, z1, z2, z3, z4, z5⟩ := H8.out.c10
                  go_wp2_with fail
                  refine (same_any x zs[i] _ _ _ HGX.out HGZ.out H8.out.rx H8.out.rz).mono ?_
                  rintro e w9 ⟨⟨bs, rfl, hs⟩, hbs⟩
                  have H9 := Lib.hid (H8.out.kept (fun _ _ h hb => h.kept hb) hbs)
                  have hbt' := hs.2 (HMF.out.2.2.2.1 HBT.out)
                  subst hbt'
                  clear a0 a1 a2 a3 a4 a5 b0 b1 b2 b3 b4 b5 r0 r1 r2 r3 r4 r5 r6 x0 x1 x2 x3 x4 x5 y0 y1 y2 y3 y4 y5 z0 z1 z2 z3 z4 z5
                  clear hbs hs
                  obtain ⟨a0, a1, a2, a3, a4, a5, b0, b1, b2, b3, b4, b5, r0, r1, r2, r3, r4, r5, r6⟩ := H9.out.lw.cells
                  obtain ⟨x0, x1, x2, x3, x4, x5⟩ := H9.out.c8
                  obtain ⟨y0, y1, y2, y3, y4, y5⟩ := H9.out.c9
                  obtain ⟨z0, z1, z2, z3, z4, z5⟩ := H9.out.c10
                  go_wp2_with fail
                  go_roundg (ks.length - (i + 1))
                  case measure => omega
                  case rel => exact ⟨i + 1, by go_num, by omega, rfl, Lib.hid H9.out.lw⟩
                · have HBT := Lib.hid (hbt rfl)
                  clear hbt hbf
                  go_wp2_with fail
                  refine (same_any y zs[i] _ _ _ HGY.out HGZ.out H7.out.ry H7.out.rz).mono ?_
                  rintro e w8 ⟨⟨bs, rfl, hs⟩, hbs⟩
                  have H8 := Lib.hid (H7.out.kept (fun _ _ h hb => h.kept hb) hbs)
                  have hbt' := hs.2 (HMF.out.2.2.1 HNB.out HBT.out)
                  subst hbt'
                  clear a0 a1 a2 a3 a4 a5 b0 b1 b2 b3 b4 b5 r0 r1 r2 r3 r4 r5 r6 x0 x1 x2 x3 x4 x5 y0 y1 y2 y3 y4 y5 z0 z1 z2 z3 z4 z5
                  clear hbs hs
                  obtain ⟨a0, a1, a2, a3, a4, a5, b0, b1, b2, b3, b4, b5, r0, r1, r2, r3, r4, r5, r6⟩ := H8.out.lw.cells
                  obtain ⟨x0, x1, x2, x3, x4, x5⟩ := H8.out.c8
                  obtain ⟨y0, y1, y2, y3, y4, y5⟩ := H8.out.c9
                  obtain ⟨z0, z1, z2, z3, z4, z5⟩ := H8.out.c10
                  go_wp2_with fail
                  refine (has_any b _ ks[i] _ H8.out.lw.rb HGB.out.1.keys.1).mono ?_
                  rintro e w9 ⟨bb, rfl, hb9, hbt, hbf⟩
                  have H9 := Lib.hid (H8.out.kept (fun _ _ h hb => h.kept hb) hb9)
                  clear a0 a1 a2 a3 a4 a5 b0 b1 b2 b3 b4 b5 r0 r1 r2 r3 r4 r5 r6 x0 x1 x2 x3 x4 x5 y0 y1 y2 y3 y4 y5 z0 z1 z2 z3 z4 z5
                  clear hb9
                  cases bb
                  case false => exact absurd HBT.out (hbf rfl)
                  clear hbt hbf
                  obtain ⟨a0, a1, a2, a3, a4, a5, b0, b1, b2, b3, b4, b5, r0, r1, r2, r3, r4, r5, r6⟩ := H9.out.lw.cells
                  obtain ⟨x0, x1, x2, x3, x4, x5⟩ := H9.out.c8
                  obtain ⟨y0, y1, y2, y3, y4, y5⟩ := H9.out.c9
                  obtain ⟨z0, z1, z2, z3, z4, z5⟩ := H9.out.c10
                  go_wp2_with fail
                  go_roundg (ks.length - (i + 1))
                  case measure => omega
                  case rel => exact ⟨i + 1, by go_num, by omega, rfl, Lib.hid H9.out.lw⟩
            · have hnb : ¬ (x.kd = 6 ∧ y.kd = 6) := fun h => hx6 (HXK.out.1.symm.trans h.1)
              have HNB := Lib.hid hnb
              have hx6' : (xk == 6) = false := by simp [hx6]
              clear hnb hx6
              go_wp2_with fail
              refine (has_any b _ ks[i] _ H6.out.lw.rb HGB.out.1.keys.1).mono ?_
              rintro e w7 ⟨bb, rfl, hb7, hbt, hbf⟩
              have H7 := Lib.hid (H6.out.kept (fun _ _ h hb => h.kept hb) hb7)
              clear a0 a1 a2 a3 a4 a5 b0 b1 b2 b3 b4 b5 r0 r1 r2 r3 r4 r5 r6 x0 x1 x2 x3 x4 x5 y0 y1 y2 y3 y4 y5 z0 z1 z2 z3 z4 z5
              clear hb7
              obtain ⟨a0, a1, a2, a3, a4, a5, b0, b1, b2, b3, b4, b5, r0, r1, r2, r3, r4, r5, r6⟩ := H7.out.lw.cells
              obtain ⟨x0, x1, x2, x3, x4, x5⟩ := H7.out.c8
              obtain ⟨y0, y1, y2, y3, y4, y5⟩ := H7.out.c9
              obtain ⟨z0, z1, z2, z3, z4, z5⟩ := H7.out.c10
              cases bb
              · have HBT := Lib.hid (hbf rfl)
                clear hbt hbf
                go_wp2_with fail
                refine (has_any b _ ks[i] _ H7.out.lw.rb HGB.out.1.keys.1).mono ?_
                rintro e w8 ⟨bb, rfl, hb8, hbt, hbf⟩
                have H8 := Lib.hid (H7.out.kept (fun _ _ h hb => h.kept hb) hb8)
                clear a0 a1 a2 a3 a4 a5 b0 b1 b2 b3 b4 b5 r0 r1 r2 r3 r4 r5 r6 x0 x1 x2 x3 x4 x5 y0 y1 y2 y3 y4 y5 z0 z1 z2 z3 z4 z5
                clear hb8
                cases bb
                case true => exact absurd (hbt rfl) HBT.out
                clear hbt hbf
                obtain ⟨a0, a1, a2, a3, a4, a5, b0, b1, b2, b3, b4, b5, r0, r1, r2, r3, r4, r5, r6⟩ := H8.out.lw.cells
                obtain ⟨x0, x1, x2, x3, x4, x5⟩ := H8.out.c8
                obtain ⟨y0, y1, y2, y3, y4, y5⟩ := H8.out.c9
                obtain ⟨z0, z1, z2, z3, z4, z5⟩ := H8.out.c10
                go_wp2_with fail
                refine (same_any x zs[i] _ _ _ HGX.out HGZ.out H8.out.rx H8.out.rz).mono ?_
                rintro e w9 ⟨⟨bs, rfl, hs⟩, hbs⟩
                have H9 := Lib.hid (H8.out.kept (fun _ _ h hb => h.kept hb) hbs)
                have hbt' := hs.2 (HMF.out.2.2.2.1 HBT.out)
                subst hbt'
                clear a0 a1 a2 a3 a4 a5 b0 b1 b2 b3 b4 b5 r0 r1 r2 r3 r4 r5 r6 x0 x1 x2 x3 x4 x5 y0 y1 y2 y3 y4 y5 z0 z1 z2 z3 z4 z5
                clear hbs hs
                obtain ⟨a0, a1, a2, a3, a4, a5, b0, b1, b2, b3, b4, b5, r0, r1, r2, r3, r4, r5, r6⟩ := H9.out.lw.cells
                obtain ⟨x0, x1, x2, x3, x4, x5⟩ := H9.out.c8
                obtain ⟨y0, y1, y2, y3, y4, y5⟩ := H9.out.c9
                obtain ⟨z0, z1, z2, z3, z4, z5⟩ := H9.out.c10
                go_wp2_with fail
                go_roundg (ks.length - (i + 1))
                case measure => omega
                case rel => exact ⟨i + 1, by go_num, by omega, rfl, Lib.hid H9.out.lw⟩
              · have HBT := Lib.hid (hbt rfl)
                clear hbt hbf
                go_wp2_with fail
                refine (same_any y zs[i] _ _ _ HGY.out HGZ.out H7.out.ry H7.out.rz).mono ?_
                rintro e w8 ⟨⟨bs, rfl, hs⟩, hbs⟩
                have H8 := Lib.hid (H7.out.kept (fun _ _ h hb => h.kept hb) hbs)
                have hbt' := hs.2 (HMF.out.2.2.1 HNB.out HBT.out)
                subst hbt'
                clear a0 a1 a2 a3 a4 a5 b0 b1 b2 b3 b4 b5 r0 r1 r2 r3 r4 r5 r6 x0 x1 x2 x3 x4 x5 y0 y1 y2 y3 y4 y5 z0 z1 z2 z3 z4 z5
                clear hbs hs
                obtain ⟨a0, a1, a2, a3, a4, a5, b0, b1, b2, b3, b4, b5, r0, r1, r2, r3, r4, r5, r6⟩ := H8.out.lw.cells
                obtain ⟨x0, x1, x2, x3, x4, x5⟩ := H8.out.c8
                obtain ⟨y0, y1, y2, y3, y4, y5⟩ := H8.out.c9
                obtain ⟨z0, z1, z2, z3, z4, z5⟩ := H8.out.c10
                go_wp2_with fail
                refine (has_any b _ ks[i] _ H8.out.lw.rb HGB.out.1.keys.1).mono ?_
                rintro e w9 ⟨bb, rfl, hb9, hbt, hbf⟩
                have H9 := Lib.hid (H8.out.kept (fun _ _ h hb => h.kept hb) hb9)
                clear a0 a1 a2 a3 a4 a5 b0 b1 b2 b3 b4 b5 r0 r1 r2 r3 r4 r5 r6 x0 x1 x2 x3 x4 x5 y0 y1 y2 y3 y4 y5 z0 z1 z2 z3 z4 z5
                clear hb9
                cases bb
                case false => exact absurd HBT.out (hbf rfl)
                clear hbt hbf
                obtain ⟨a0, a1, a2, a3, a4, a5, b0, b1, b2, b3, b4, b5, r0, r1, r2, r3, r4, r5, r6⟩ := H9.out.lw.cells
                obtain ⟨x0, x1, x2, x3, x4, x5⟩ := H9.out.c8
                obtain ⟨y0, y1, y2, y3, y4, y5⟩ := H9.out.c9
                obtain ⟨z0, z1, z2, z3, z4, z5⟩ := H9.out.c10
                go_wp2_with fail
                go_roundg (ks.length - (i + 1))
                case measure => omega
                case rel => exact ⟨i + 1, by go_num, by omega, rfl, Lib.hid H9.out.lw⟩
          · clear hbt hbf
            by_cases hx6 : xk = 6
            · subst hx6
              by_cases hy6 : yk = 6
              · subst hy6
                go_wp2_with fail
                have H0 := Lib.hid (H5.out.kept (fun _ _ h hb => h.kept hb) (Below.refl _ w5).drew)
                clear a0 a1 a2 a3 a4 a5 b0 b1 b2 b3 b4 b5 r0 r1 r2 r3 r4 r5 r6 x0 x1 x2 x3 x4 x5 y0 y1 y2 y3 y4 y5 z0 z1 z2 z3 z4 z5
                refine wp_region_held_drew (S := fun W => Below w5.drew.heap.size w5.drew W) (by kernel_rfl) (Below.refl _ _) fun _ => ?_
                generalize w5.drew = W0 at H0 ⊢
                have HTK := Lib.hid (fun W (hS : Below W0.heap.size W0 W) => And.intro (H0.out.c8.kept hS) (And.intro (H0.out.c9.kept hS) (H0.out.c10.kept hS)))
                refine wpAnyH_take (oi := ⟨some 89, _, _, _, _, _⟩) (i := 0) (v := ?mc0) rfl (by kernel_rfl) (by kernel_rfl) (by kernel_rfl) (fun _ _ _ h => h) (Or.inl ⟨by rfl, ?nc0⟩) (Below.refl _ _) ?oc0
                case nc0 => (intro W hS; obtain ⟨⟨q0, q1, q2, q3, q4, q5⟩, ⟨q6, q7, q8, q9, q10, q11⟩, q12, q13, q14, q15, q16, q17⟩ := HTK.out W hS; clear hS; go_simp; try with_reducible rfl)
                try simp only [Act.put, List.setIfInBounds_toArray, List.set_cons_zero, List.set_cons_succ]
                refine wpAnyH_take (oi := ⟨some 90, _, _, _, _, _⟩) (i := 1) (v := ?mc1) rfl (by kernel_rfl) (by kernel_rfl) (by kernel_rfl) (fun _ _ _ h => h) (Or.inl ⟨by rfl, ?nc1⟩) (Below.refl _ _) ?oc1
                case nc1 => (intro W hS; obtain ⟨⟨q0, q1, q2, q3, q4, q5⟩, ⟨q6, q7, q8, q9, q10, q11⟩, q12, q13, q14, q15, q16, q17⟩ := HTK.out W hS; clear hS; go_simp; try with_reducible rfl)
                try simp only [Act.put, List.setIfInBounds_toArray, List.set_cons_zero, List.set_cons_succ]
                refine wpAnyH_take (oi := ⟨some 92, _, _, _, _, _⟩) (i := 3) (v := ?mc3) rfl (by kernel_rfl) (by kernel_rfl) (by kernel_rfl) (fun _ _ _ h => h) (Or.inl ⟨by rfl, ?nc3⟩) (Below.refl _ _) ?oc3
                case nc3 => (intro W hS; obtain ⟨⟨q0, q1, q2, q3, q4, q5⟩, ⟨q6, q7, q8, q9, q10, q11⟩, q12, q13, q14, q15, q16, q17⟩ := HTK.out W hS; clear hS; go_simp; try with_reducible rfl)
                try simp only [Act.put, List.setIfInBounds_toArray, List.set_cons_zero, List.set_cons_succ]
                refine wpAnyH_all (rs := [2]) (by decide +kernel) (by simp) fun j hj => ?_
                rw [List.mem_singleton] at hj
                subst hj
                refine op_call2 (o := ⟨some 91, _, _, _, _, _⟩) (vx := .agg #[.int .i64 6, .int .i64 xh, .string xt, .slice xal xnl xcl, .slice xak xnk xck, .slice xav xnv xcv]) (vy := .agg #[.int .i64 6, .int .i64 yh, .string yt, .slice yal ynl ycl, .slice yak ynk yck, .slice yav ynv ycv]) rfl rfl rfl (by simp [Act.eval]) (by simp [Act.eval]) (enters_of Tryd.func26 (by kernel_rfl) rfl) ?_
                have hmf := HMF.out.2.1 HXK.out.1 HXK.out.2
                have hsx := RV.AtR.small HGA.out.1 hmf.1
                have hsy := RV.AtR.small HGB.out.1 hmf.2.1
                refine (implMerge_any x y _ _ W0 HGX.out HGY.out HXK.out.1 HXK.out.2 (Nat.le_trans hsx.1 HGA.out.2.1) (Nat.le_trans hsy.1 HGB.out.2.1) (Nat.le_trans hsx.2 (by have := HGA.out.2.2; omega)) (Nat.le_trans hsy.2 (by have := HGB.out.2.2; omega)) H0.out.rx H0.out.ry).mono ?_
                rintro e w7 ⟨c', hm', r, rfl, hrc, hb7⟩
                have hz' : c' = zs[i] := MergeN.det HGX.out HGY.out hm' hmf.2.2
                subst hz'
                refine ⟨_, rfl, hb7, ?_⟩
                try simp only [Act.put, List.setIfInBounds_toArray, List.set_cons_zero, List.set_cons_succ]
                refine wpAnyH_all (rs := [4]) (by decide +kernel) (by simp) fun j hj => ?_
                rw [List.mem_singleton] at hj
                subst hj
                refine op_call2 (o := ⟨some 93, _, _, _, _, _⟩) (vx := r) (vy := .agg #[.int .i64 zk, .int .i64 zh, .string zt, .slice zal znl zcl, .slice zak znk zck, .slice zav znv zcv]) rfl rfl rfl (by simp [Act.eval]) (by simp [Act.eval]) (enters_of Tryd.func23 (by kernel_rfl) rfl) ?_
                refine (given_any zs[i] r _ w7 HGZ.out hrc.is (H0.out.rz.below hb7)).mono ?_
                rintro e w8 ⟨rfl, hb8⟩
                have hB8 := hb7.trans (hb8.mono hb7.size)
                have H8 := Lib.hid (H0.out.kept (fun _ _ h hb => h.kept hb) hB8)
                refine ⟨_, rfl, hB8, ?_⟩
                try simp only [Act.put, List.setIfInBounds_toArray, List.set_cons_zero, List.set_cons_succ]
                refine wpAnyH_take (oi := ⟨some 94, _, _, _, _, _⟩) (i := 5) (v := .bool false) rfl (by kernel_rfl) (by kernel_rfl) (by kernel_rfl) (fun _ _ _ h => h) (Or.inl ⟨by rfl, ?nc5⟩) hB8 ?oc5
                case nc5 => (intro W hS; clear hS; go_simp; try with_reducible rfl)
                try simp only [Act.put, List.setIfInBounds_toArray, List.set_cons_zero, List.set_cons_succ]
                refine wpAnyH_done (by decide +kernel) ?_ _
                clear hB8 hb8 hb7 hrc hm' hmf hsx hsy HTK H0
                obtain ⟨a0, a1, a2, a3, a4, a5, b0, b1, b2, b3, b4, b5, r0, r1, r2, r3, r4, r5, r6⟩ := H8.out.lw.cells
                obtain ⟨x0, x1, x2, x3, x4, x5⟩ := H8.out.c8
                obtain ⟨y0, y1, y2, y3, y4, y5⟩ := H8.out.c9
                obtain ⟨z0, z1, z2, z3, z4, z5⟩ := H8.out.c10
                go_wp2_with fail
                go_roundg (ks.length - (i + 1))
                case measure => omega
                case rel => exact ⟨i + 1, by go_num, by omega, rfl, Lib.hid H8.out.lw⟩
              · have hnb : ¬ (x.kd = 6 ∧ y.kd = 6) := fun h => hy6 (HXK.out.2.symm.trans h.2)
                have HNB := Lib.hid hnb
                have hy6' : (yk == 6) = false := by simp [hy6]
                clear hnb hy6
                go_wp2_with fail
                refine (has_any b _ ks[i] _ H5.out.lw.rb HGB.out.1.keys.1).mono ?_
                rintro e w7 ⟨bb, rfl, hb7, hbt, hbf⟩
                have H7 := Lib.hid (H5.out.kept (fun _ _ h hb => h.kept hb) hb7)
                clear a0 a1 a2 a3 a4 a5 b0 b1 b2 b3 b4 b5 r0 r1 r2 r3 r4 r5 r6 x0 x1 x2 x3 x4 x5 y0 y1 y2 y3 y4 y5 z0 z1 z2 z3 z4 z5
                clear hb7
                obtain ⟨a0, a1, a2, a3, a4, a5, b0, b1, b2, b3, b4, b5, r0, r1, r2, r3, r4, r5, r6⟩ := H7.out.lw.cells
                obtain ⟨x0, x1, x2, x3, x4, x5⟩ := H7.out.c8
                obtain ⟨y0, y1, y2, y3, y4, y5⟩ := H7.out.c9
                obtain ⟨z0, z1, z2, z3, z4, z5⟩ := H7.out.c10
                cases bb
                · have HBT := Lib.hid (hbf rfl)
                  clear hbt hbf
                  go_wp2_with fail
                  refine (has_any b _ ks[i] _ H7.out.lw.rb HGB.out.1.keys.1).mono ?_
                  rintro e w8 ⟨bb, rfl, hb8, hbt, hbf⟩
                  have H8 := Lib.hid (H7.out.kept (fun _ _ h hb => h.kept hb) hb8)
                  clear a0 a1 a2 a3 a4 a5 b0 b1 b2 b3 b4 b5 r0 r1 r2 r3 r4 r5 r6 x0 x1 x2 x3 x4 x5 y0 y1 y2 y3 y4 y5 z0 z1 z2 z3 z4 z5
                  clear hb8
                  cases bb
                  case true => exact absurd (hbt rfl) HBT.out
                  clear hbt hbf
                  obtain ⟨a0, a1, a2, a3, a4, a5, b0, b1, b2, b3, b4, b5, r0, r1, r2, r3, r4, r5, r6⟩ := H8.out.lw.cells
                  obtain ⟨x0, x1, x2, x3, x4, x5⟩ := H8.out.c8
                  obtain ⟨y0, y1, y2, y3, y4, y5⟩ := H8.out.c9
                  obtain ⟨z0, z1, z2, z3, z4, z5⟩ := H8.out.c10
                  go_wp2_with fail
                  refine (same_any x zs[i] _ _ _ HGX.out HGZ.out H8.out.rx H8.out.rz).mono ?_
                  rintro e w9 ⟨⟨bs, rfl, hs⟩, hbs⟩
                  have H9 := Lib.hid (H8.out.kept (fun _ _ h hb => h.kept hb) hbs)
                  have hbt' := hs.2 (HMF.out.2.2.2.1 HBT.out)
                  subst hbt'
                  clear a0 a1 a2 a3 a4 a5 b0 b1 b2 b3 b4 b5 r0 r1 r2 r3 r4 r5 r6 x0 x1 x2 x3 x4 x5 y0 y1 y2 y3 y4 y5 z0 z1 z2 z3 z4 z5
                  clear hbs hs
                  obtain ⟨a0, a1, a2, a3, a4, a5, b0, b1, b2, b3, b4, b5, r0, r1, r2, r3, r4, r5, r6⟩ := H9.out.lw.cells
                  obtain ⟨x0, x1, x2, x3, x4, x5⟩ := H9.out.c8
                  obtain ⟨y0, y1, y2, y3, y4, y5⟩ := H9.out.c9
                  obtain ⟨z0, z1, z2, z3, z4, z5⟩ := H9.out.c10
                  go_wp2_with fail
                  go_roundg (ks.length - (i + 1))
                  case measure => omega
                  case rel => exact ⟨i + 1, by go_num, by omega, rfl, Lib.hid H9.out.lw⟩
                · have HBT := Lib.hid (hbt rfl)
                  clear hbt hbf
                  go_wp2_with fail
                  refine (same_any y zs[i] _ _ _ HGY.out HGZ.out H7.out.ry H7.out.rz).mono ?_
                  rintro e w8 ⟨⟨bs, rfl, hs⟩, hbs⟩
                  have H8 := Lib.hid (H7.out.kept (fun _ _ h hb => h.kept hb) hbs)
                  have hbt' := hs.2 (HMF.out.2.2.1 HNB.out HBT.out)
                  subst hbt'
                  clear a0 a1 a2 a3 a4 a5 b0 b1 b2 b3 b4 b5 r0 r1 r2 r3 r4 r5 r6 x0 x1 x2 x3 x4 x5 y0 y1 y2 y3 y4 y5 z0 z1 z2 z3 z4 z5
                  clear hbs hs
                  obtain ⟨a0, a1, a2, a3, a4, a5, b0, b1, b2, b3, b4, b5, r0, r1, r2, r3, r4, r5, r6⟩ := H8.out.lw.cells
                  obtain ⟨x0, x1, x2, x3, x4, x5⟩ := H8.out.c8
                  obtain ⟨y0, y1, y2, y3, y4, y5⟩ := H8.out.c9
                  obtain ⟨z0, z1, z2, z3, z4, z5⟩ := H8.out.c10
                  go_wp2_with fail
                  refine (has_any b _ ks[i] _ H8.out.lw.rb HGB.out.1.keys.1).mono ?_
                  rintro e w9 ⟨bb, rfl, hb9, hbt, hbf⟩
                  have H9 := Lib.hid (H8.out.kept (fun _ _ h hb => h.kept hb) hb9)
                  clear a0 a1 a2 a3 a4 a5 b0 b1 b2 b3 b4 b5 r0 r1 r2 r3 r4 r5 r6 x0 x1 x2 x3 x4 x5 y0 y1 y2 y3 y4 y5 z0 z1 z2 z3 z4 z5
                  clear hb9
                  cases bb
                  case false => exact absurd HBT.out (hbf rfl)
                  clear hbt hbf
                  obtain ⟨a0, a1, a2, a3, a4, a5, b0, b1, b2, b3, b4, b5, r0, r1, r2, r3, r4, r5, r6⟩ := H9.out.lw.cells
                  obtain ⟨x0, x1, x2, x3, x4, x5⟩ := H9.out.c8
                  obtain ⟨y0, y1, y2, y3, y4, y5⟩ := H9.out.c9
                  obtain ⟨z0, z1, z2, z3, z4, z5⟩ := H9.out.c10
                  go_wp2_with fail
                  go_roundg (ks.length - (i + 1))
                  case measure => omega
                  case rel => exact ⟨i + 1, by go_num, by omega, rfl, Lib.hid H9.out.lw⟩
            · have hnb : ¬ (x.kd = 6 ∧ y.kd = 6) := fun h => hx6 (HXK.out.1.symm.trans h.1)
              have HNB := Lib.hid hnb
              have hx6' : (xk == 6) = false := by simp [hx6]
              clear hnb hx6
              go_wp2_with fail
              refine (has_any b _ ks[i] _ H5.out.lw.rb HGB.out.1.keys.1).mono ?_
              rintro e w7 ⟨bb, rfl, hb7, hbt, hbf⟩
              have H7 := Lib.hid (H5.out.kept (fun _ _ h hb => h.kept hb) hb7)
              clear a0 a1 a2 a3 a4 a5 b0 b1 b2 b3 b4 b5 r0 r1 r2 r3 r4 r5 r6 x0 x1 x2 x3 x4 x5 y0 y1 y2 y3 y4 y5 z0 z1 z2 z3 z4 z5
              clear hb7
              obtain ⟨a0, a1, a2, a3, a4, a5, b0, b1, b2, b3, b4, b5, r0, r1, r2, r3, r4, r5, r6⟩ := H7.out.lw.cells
              obtain ⟨x0, x1, x2, x3, x4, x5⟩ := H7.out.c8
              obtain ⟨y0, y1, y2, y3, y4, y5⟩ := H7.out.c9
              obtain ⟨z0, z1, z2, z3, z4, z5⟩ := H7.out.c10
              cases bb
              · have HBT := Lib.hid (hbf rfl)
                clear hbt hbf
                go_wp2_with fail
                refine (has_any b _ ks[i] _ H7.out.lw.rb HGB.out.1.keys.1).mono ?_
                rintro e w8 ⟨bb, rfl, hb8, hbt, hbf⟩
                have H8 := Lib.hid (H7.out.kept (fun _ _ h hb => h.kept hb) hb8)
                clear a0 a1 a2 a3 a4 a5 b0 b1 b2 b3 b4 b5 r0 r1 r2 r3 r4 r5 r6 x0 x1 x2 x3 x4 x5 y0 y1 y2 y3 y4 y5 z0 z1 z2 z3 z4 z5
                clear hb8
                cases bb
                case true => exact absurd (hbt rfl) HBT.out
                clear hbt hbf
                obtain ⟨a0, a1, a2, a3, a4, a5, b0, b1, b2, b3, b4, b5, r0, r1, r2, r3, r4, r5, r6⟩ := H8.out.lw.cells
                obtain ⟨x0, x1, x2, x3, x4, x5⟩ := H8.out.c8
                obtain ⟨y0, y1, y2, y3, y4, y5⟩ := H8.out.c9
                obtain ⟨z0, z1, z2, z3, z4, z5⟩ := H8.out.c10
                go_wp2_with fail
                refine (same_any x zs[i] _ _ _ HGX.out HGZ.out H8.out.rx H8.out.rz).mono ?_
                rintro e w9 ⟨⟨bs, rfl, hs⟩, hbs⟩
                have H9 := Lib.hid (H8.out.kept (fun _ _ h hb => h.kept hb) hbs)
                have hbt' := hs.2 (HMF.out.2.2.2.1 HBT.out)
                subst hbt'
                clear a0 a1 a2 a3 a4 a5 b0 b1 b2 b3 b4 b5 r0 r1 r2 r3 r4 r5 r6 x0 x1 x2 x3 x4 x5 y0 y1 y2 y3 y4 y5 z0 z1 z2 z3 z4 z5
                clear hbs hs
                obtain ⟨a0, a1, a2, a3, a4, a5, b0, b1, b2, b3, b4, b5, r0, r1, r2, r3, r4, r5, r6⟩ := H9.out.lw.cells
                obtain ⟨x0, x1, x2, x3, x4, x5⟩ := H9.out.c8
                obtain ⟨y0, y1, y2, y3, y4, y5⟩ := H9.out.c9
                obtain ⟨z0, z1, z2, z3, z4, z5⟩ := H9.out.c10
                go_wp2_with fail
                go_roundg (ks.length - (i + 1))
                case measure => omega
                case rel => exact ⟨i + 1, by go_num, by omega, rfl, Lib.hid H9.out.lw⟩
              · have HBT := Lib.hid (hbt rfl)
                clear hbt hbf
                go_wp2_with fail
                refine (same_any y zs[i] _ _ _ HGY.out HGZ.out H7.out.ry H7.out.rz).mono ?_
                rintro e w8 ⟨⟨bs, rfl, hs⟩, hbs⟩
                have H8 := Lib.hid (H7.out.kept (fun _ _ h hb => h.kept hb) hbs)
                have hbt' := hs.2 (HMF.out.2.2.1 HNB.out HBT.out)
                subst hbt'
                clear a0 a1 a2 a3 a4 a5 b0 b1 b2 b3 b4 b5 r0 r1 r2 r3 r4 r5 r6 x0 x1 x2 x3 x4 x5 y0 y1 y2 y3 y4 y5 z0 z1 z2 z3 z4 z5
                clear hbs hs
                obtain ⟨a0, a1, a2, a3, a4, a5, b0, b1, b2, b3, b4, b5, r0, r1, r2, r3, r4, r5, r6⟩ := H8.out.lw.cells
                obtain ⟨x0, x1, x2, x3, x4, x5⟩ := H8.out.c8
                obtain ⟨y0, y1, y2, y3, y4, y5⟩ := H8.out.c9
                obtain ⟨z0, z1, z2, z3, z4, z5⟩ := H8.out.c10
                go_wp2_with fail
                refine (has_any b _ ks[i] _ H8.out.lw.rb HGB.out.1.keys.1).mono ?_
                rintro e w9 ⟨bb, rfl, hb9, hbt, hbf⟩
                have H9 := Lib.hid (H8.out.kept (fun _ _ h hb => h.kept hb) hb9)
                clear a0 a1 a2 a3 a4 a5 b0 b1 b2 b3 b4 b5 r0 r1 r2 r3 r4 r5 r6 x0 x1 x2 x3 x4 x5 y0 y1 y2 y3 y4 y5 z0 z1 z2 z3 z4 z5
                clear hb9
                cases bb
                case false => exact absurd HBT.out (hbf rfl)
                clear hbt hbf
                obtain ⟨a0, a1, a2, a3, a4, a5, b0, b1, b2, b3, b4, b5, r0, r1, r2, r3, r4, r5, r6⟩ := H9.out.lw.cells
                obtain ⟨x0, x1, x2, x3, x4, x5⟩ := H9.out.c8
                obtain ⟨y0, y1, y2, y3, y4, y5⟩ := H9.out.c9
                obtain ⟨z0, z1, z2, z3, z4, z5⟩ := H9.out.c10
                go_wp2_with fail
                go_roundg (ks.length - (i + 1))
                case measure => omega
                case rel => exact ⟨i + 1, by go_num, by omega, rfl, Lib.hid H9.out.lw⟩
          --LOOP1END
        · --LOOP2
          have HLd := Lib.hid (HL.out.kept (Below.refl _ wr).drew)
          have hAK := rep_keys HLd.out.ra
          have hBK := rep_keys HLd.out.rb
          obtain ⟨g1, cp1, wA, hrA, hbA, g2, cp2, wB, hrB, hbB, hkB⟩ := keys_runs a.keys b.keys ak ak2 ck ck2 wr.drew wr.drew (Below.refl _ _) (keys_few HGA.out.1 HGA.out.2.1) (keys_few HGB.out.1 HGB.out.2.1) hAK.1 hBK.1
          have HRA := Lib.hid hrA
          have HRB := Lib.hid hrB
          have HKB := Lib.hid hkB
          have HbA := Lib.hid hbA
          have HbB := Lib.hid hbB
          obtain ⟨-, rfl, -⟩ := hAK
          obtain ⟨-, rfl, -⟩ := hBK
          clear hrA hrB hkB hbA hbB hi
          go_wp2_with fail
          refine wp_region_held_drew (S := fun W => Below wr.drew.heap.size wr.drew W) (by kernel_rfl) (Below.refl _ _) fun _ => ?_
          generalize wr.drew = W0 at HLd HRA HRB HKB HbA HbB ⊢
          have HTK := Lib.hid (fun W (hS : Below W0.heap.size W0 W) => (HLd.out.kept hS).cells)
          refine wpAnyH_take (oi := ⟨some 117, _, _, _, _, _⟩) (i := 1) (v := ?k1) rfl (by kernel_rfl) (by kernel_rfl) (by kernel_rfl) (fun _ _ _ h => h) (Or.inl ⟨by rfl, ?l1⟩) (Below.refl _ _) ?x1
          case l1 => (intro W hS; obtain ⟨q0, q1, q2, q3, q4, q5, q6, q7, q8, q9, q10, q11, q12, q13, q14, q15, q16, q17, q18⟩ := HTK.out W hS; clear hS; go_simp; try with_reducible rfl)
          try simp only [Act.put, List.setIfInBounds_toArray, List.set_cons_zero, List.set_cons_succ]
          refine wpAnyH_take (oi := ⟨some 118, _, _, _, _, _⟩) (i := 2) (v := ?k2) rfl (by kernel_rfl) (by kernel_rfl) (by kernel_rfl) (fun _ _ _ h => h) (Or.inl ⟨by rfl, ?l2⟩) (Below.refl _ _) ?x2
          case l2 => (intro W hS; obtain ⟨q0, q1, q2, q3, q4, q5, q6, q7, q8, q9, q10, q11, q12, q13, q14, q15, q16, q17, q18⟩ := HTK.out W hS; clear hS; go_simp; try with_reducible rfl)
          try simp only [Act.put, List.setIfInBounds_toArray, List.set_cons_zero, List.set_cons_succ]
          refine wpAnyH_take (oi := ⟨some 120, _, _, _, _, _⟩) (i := 4) (v := ?k4) rfl (by kernel_rfl) (by kernel_rfl) (by kernel_rfl) (fun _ _ _ h => h) (Or.inl ⟨by rfl, ?l4⟩) (Below.refl _ _) ?x4
          case l4 => (intro W hS; obtain ⟨q0, q1, q2, q3, q4, q5, q6, q7, q8, q9, q10, q11, q12, q13, q14, q15, q16, q17, q18⟩ := HTK.out W hS; clear hS; go_simp; try with_reducible rfl)
          try simp only [Act.put, List.setIfInBounds_toArray, List.set_cons_zero, List.set_cons_succ]
          refine wpAnyH_take (oi := ⟨some 121, _, _, _, _, _⟩) (i := 5) (v := ?k5) rfl (by kernel_rfl) (by kernel_rfl) (by kernel_rfl) (fun _ _ _ h => h) (Or.inl ⟨by rfl, ?l5⟩) (Below.refl _ _) ?x5
          case l5 => (intro W hS; obtain ⟨q0, q1, q2, q3, q4, q5, q6, q7, q8, q9, q10, q11, q12, q13, q14, q15, q16, q17, q18⟩ := HTK.out W hS; clear hS; go_simp; try with_reducible rfl)
          try simp only [Act.put, List.setIfInBounds_toArray, List.set_cons_zero, List.set_cons_succ]
          refine wpAnyH_take (oi := ⟨some 124, _, _, _, _, _⟩) (i := 8) (v := ?k8) rfl (by kernel_rfl) (by kernel_rfl) (by kernel_rfl) (fun _ _ _ h => h) (Or.inl ⟨by rfl, ?l8⟩) (Below.refl _ _) ?x8
          case l8 => (intro W hS; obtain ⟨q0, q1, q2, q3, q4, q5, q6, q7, q8, q9, q10, q11, q12, q13, q14, q15, q16, q17, q18⟩ := HTK.out W hS; clear hS; go_simp; try with_reducible rfl)
          try simp only [Act.put, List.setIfInBounds_toArray, List.set_cons_zero, List.set_cons_succ]
          refine wpAnyH_ready (rs := [0]) (by decide +kernel) (by simp) (AllReadyH.cons rfl (fun K hK => ?_) AllReadyH.nil)
          go_simp
          refine hK.out _ _ ((Below.refl _ _).alloc (Nat.le_refl _) _) fun _ => ?_
          clear hK K
          try simp only [Act.put, List.setIfInBounds_toArray, List.set_cons_zero, List.set_cons_succ]
          refine wpAnyH_all (rs := [3]) (by decide +kernel) (by simp) fun j hj => ?_
          rw [List.mem_singleton] at hj
          subst hj
          refine step_append_runM (o := ⟨some 119, _, _, _, _, _⟩) rfl rfl (.tmp 116) (.tmp 118) 24 rfl (.slice (some ⟨W0.heap.size, 0, none⟩) 0 0) (.slice ak a.keys.length ck) (by simp [Act.eval]) (by simp [Act.eval]) HRA.out ⟨HbA.out, ?_⟩
          try simp only [Act.put, List.setIfInBounds_toArray, List.set_cons_zero, List.set_cons_succ]
          refine wpAnyH_all (rs := [6]) (by decide +kernel) (by simp) fun j hj => ?_
          rw [List.mem_singleton] at hj
          subst hj
          refine step_append_runM (o := ⟨some 122, _, _, _, _, _⟩) rfl rfl (.tmp 119) (.tmp 121) 24 rfl (.slice (some ⟨g1, 0, none⟩) a.keys.length cp1) (.slice ak2 b.keys.length ck2) (by simp [Act.eval]) (by simp [Act.eval]) HRB.out ⟨HbB.out, ?_⟩
          try simp only [Act.put, List.setIfInBounds_toArray, List.set_cons_zero, List.set_cons_succ]
          refine wpAnyH_take (oi := ⟨some 123, _, _, _, _, _⟩) (i := 7) (v := .int .i64 ((a.keys.length + b.keys.length : Nat) : Int)) rfl (by kernel_rfl) (by kernel_rfl) (by kernel_rfl) (fun _ _ _ h => h) (Or.inl ⟨by rfl, ?l7⟩) HbB.out ?x7
          case l7 => (intro W hS; clear hS; go_simp; try with_reducible rfl)
          try simp only [Act.put, List.setIfInBounds_toArray, List.set_cons_zero, List.set_cons_succ]
          refine wpAnyH_done (by decide +kernel) ?_ _
          have HLB := Lib.hid (And.intro (HLd.out.kept HbB.out) HKB.out)
          clear HTK HRA HRB HKB HbA HbB HLd HL hlt
          have hlen : a.keys.length + b.keys.length = (a.keys ++ b.keys).length := (List.length_append).symm
          rw [hlen]
          have hmx : (a.keys ++ b.keys).length ≤ 200000 := by have := keys_few HGA.out.1 HGA.out.2.1; have := keys_few HGB.out.1 HGB.out.2.1; rw [← hlen]; omega
          have HAL := Lib.hid (fun kk (h : kk ∈ a.keys ++ b.keys) => (HMM.out.1 kk).2 (List.mem_append.1 h))
          generalize a.keys ++ b.keys = both at HLB hmx HAL ⊢
          clear hlen
          go_wp2_with fail
          go_loopg [124] both.length (fun gk s124 wr2 => ∃ i : Nat, s124 = .int .i64 i ∧ i ≤ both.length ∧ gk = both.length - i ∧ Hid (LWm w a b ks zs w.heap.size w4.heap.size (.int .i64 6) (.int .i64 h) (.string t) (.slice al nl cl) (.slice ak a.keys.length ck) (.slice av nv cv) (.int .i64 6) (.int .i64 h2) (.string t2) (.slice al2 nl2 cl2) (.slice ak2 b.keys.length ck2) (.slice av2 nv2 cv2) (.int .i64 6) (.int .i64 0) (.string ByteArray.empty) (.slice ral 0 rcl) rak rck rav rcv (.int .i64 0) wr2 ∧ KeysAt wr2 (some ⟨g2, 0, none⟩) 0 both))
          case atStart => exact ⟨0, rfl, Nat.zero_le _, rfl, HLB⟩
          case round =>
            obtain ⟨i, rfl, hi, rfl, HL⟩ := hrel
            by_cases hlt : i < both.length
            · obtain ⟨kb, ko, hke, -, gk⟩ := HL.out.2.get i hlt
              injection hke with hke
              injection hke with hk1 hk2
              subst hk1 hk2
              simp only [Nat.zero_add] at gk
              have hj : (i : Int) < (both.length : Int) := by omega
              obtain ⟨a0, a1, a2, a3, a4, a5, b0, b1, b2, b3, b4, b5, r0, r1, r2, r3, r4, r5, r6⟩ := HL.out.1.cells
              clear hi
              go_wp2_with fail
              refine (has_any (.mk 6 0 ByteArray.empty [] ks zs) _ both[i] _ HL.out.1.rc HMR.out.keys.1).mono ?_
              rintro e w5 ⟨bb, rfl, hb5, hbt, hbf⟩
              cases bb
              case false => exact absurd (HAL.out _ (List.getElem_mem hlt)) (hbf rfl)
              have HL5 := Lib.hid (And.intro (HL.out.1.kept hb5) (HL.out.2.below hb5))
              clear hb5 hbt hbf a0 a1 a2 a3 a4 a5 b0 b1 b2 b3 b4 b5 r0 r1 r2 r3 r4 r5 r6 gk
              go_wp2_with fail
              go_roundg (both.length - (i + 1))
              case measure => omega
              case rel => exact ⟨i + 1, by go_num, by omega, rfl, HL5⟩
            · go_wp2_with fail
              go_ret
              exact ⟨rfl, HL.out.1.below⟩
    · have hne2 : (k2 != 6) = true := by simp [hk2]
      clear hk2
      go_wp2_with fail
      go_ret
      exact ⟨rfl, HB3.out⟩
  · have hne : (k != 6) = true := by simp [hk]
    clear hk
    go_wp2_with fail
    go_ret
    exact ⟨rfl, HB3.out⟩
end Go.Proofs.YtjpcdbopioblaaaDoor
