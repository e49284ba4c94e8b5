/- FnFlattenParts walked. -/
import Derived.Test.YtjpcdbopioblaaaDoorJoined
namespace Go.Proofs.YtjpcdbopioblaaaDoor
open Go.RowKit

theorem two_arrays (w : World) (l l' : List RV) (a b : Option Addr) (ca cb : Nat) (hl : l.length ≤ reachN) (hl' : l'.length ≤ reachN) (hr : RV.RepL w a 0 l) (hr' : RV.RepL w b 0 l') (w2 : World) (hb : Below w.heap.size w w2) :
    RV.RepL (w2.alloc (.cells #[.int .i64 5, .int .i64 0, .string ByteArray.empty, .slice a l.length ca, .slice none 0 0, .slice none 0 0, .int .i64 5, .int .i64 0, .string ByteArray.empty, .slice b l'.length cb, .slice none 0 0, .slice none 0 0] 26)) (some ⟨w2.heap.size, 0, none⟩) 0 [arrT l, arrT l'] := by
  have hb2 := hb.alloc hb.size (.cells #[.int .i64 5, .int .i64 0, .string ByteArray.empty, .slice a l.length ca, .slice none 0 0, .slice none 0 0, .int .i64 5, .int .i64 0, .string ByteArray.empty, .slice b l'.length cb, .slice none 0 0, .slice none 0 0] 26)
  refine RV.RepL.of [arrT l, arrT l'] 0 fun j hj => ?_
  match j, hj with
  | 0, _ => exact ⟨_, _, _, _, _, _, by simp, by simp, by simp, by simp, by simp, by simp, arrT_rep (c := ca) hl (RV.RepL.below hb2 hr)⟩
  | 1, _ => exact ⟨_, _, _, _, _, _, by simp, by simp, by simp, by simp, by simp, by simp, arrT_rep (c := cb) hl' (RV.RepL.below hb2 hr')⟩

set_option maxRecDepth 100000 in
set_option maxHeartbeats 1600000 in
theorem fnFlattenParts_law_at {l l' : List RV} {a b : Option Addr} {ca cb : Nat} {d : Int} {w : World} (hl : l.length ≤ reachN) (hr : RV.RepL w a 0 l) (hl' : l'.length ≤ reachN) (hr' : RV.RepL w b 0 l') (hd : -128 ≤ d ∧ d ≤ 127) (hT : Tabs w) :
    Calls Tryd.prog 5 #[.slice a l.length ca, .slice b l'.length cb, .int .i8 d] w fun e w' => e = .returned (.bool true) ∧ Below w.heap.size w w' := by
  have HR := Lib.hid hr
  have HR' := Lib.hid hr'
  have HT := Lib.hid hT
  have HL := Lib.hid (And.intro hl hl')
  have HA := Lib.hid (fun (a : Option Addr) (n c : Nat) (wx : World) => array_c a n c wx)
  clear hr hr' hT
  unfold reachN at hl hl'
  by_cases h1 : l.length ≤ 2147483647
  · by_cases h2 : l'.length ≤ 2147483647
    · have hj1 : ¬ ((2147483647 : Int) < (l.length : Int)) := by omega
      have hj2 : ¬ ((2147483647 : Int) < (l'.length : Int)) := by omega
      go_enter Tryd.func5, Tryd.ntmps5
      go_wp2_with fail
      refine (HA.out _ _ _ _).mono ?_
      rintro e w1 ⟨rfl, hb1⟩
      have HB1 := Lib.hid hb1
      clear hb1
      go_wp2_with fail
      refine (HA.out _ _ _ _).mono ?_
      rintro e w2 ⟨rfl, hb2⟩
      have HB2 := Lib.hid (HB1.out.trans (hb2.mono HB1.out.size))
      clear hb2
      go_wp2_with fail
      refine (fits_any [arrT l, arrT l'] _ 2 _ (by show 2 ≤ reachN; decide) (HT.out.below (HB2.out.alloc HB2.out.size _)) (two_arrays w l l' a b ca cb HL.out.1 HL.out.2 HR.out HR'.out w2 HB2.out)).mono ?_
      rintro e w3 ⟨bf, rfl, hb3, hq⟩
      have HB3 := Lib.hid ((HB2.out.alloc HB2.out.size _).trans (hb3.mono (Nat.le_trans HB2.out.size (by simp))))
      have HQ := Lib.hid hq
      clear hb3 hq
      cases bf
      · go_wp2_with fail
        go_ret
        exact ⟨rfl, HB3.out⟩
      · have hq0 := HQ.out rfl 0 (by simp)
        have hq1 := HQ.out rfl 1 (by simp)
        simp only [List.getElem_cons_zero, List.getElem_cons_succ] at hq0 hq1
        have hg0 : RV.GoodL l := by have := hq0.1; unfold arrT at this; exact this.rest.2.2.2.2.2.2.2.2.1
        have hg1 : RV.GoodL l' := by have := hq1.1; unfold arrT at this; exact this.rest.2.2.2.2.2.2.2.2.1
        rw [arrT_nodes, arrT_bytes] at hq0 hq1
        have hn0 : RV.nodesL l ≤ 400 ∧ RV.bytesL l ≤ 2000 := by omega
        have hn1 : RV.nodesL l' ≤ 400 ∧ RV.bytesL l' ≤ 2000 := by omega
        have HGD := Lib.hid (And.intro hg0 (And.intro hn0 (And.intro hg1 hn1)))
        clear HQ hq0 hq1 hg0 hg1 hn0 hn1
        obtain ⟨m, hm⟩ : ∃ m, max d (-1) = m := ⟨_, rfl⟩
        have hm1 : -1 ≤ m ∧ m ≤ 200 := by omega
        have HM := Lib.hid hm
        have HM1 := Lib.hid hm1
        have HF := Lib.hid (fun (l : List RV) (v : Value) (wx : World) (hg : RV.GoodL l) (hn : RV.nodesL l ≤ 800) (hb : RV.bytesL l ≤ 100000) (hr : (arrT l).Rep wx v) => implFlatten_any l m v wx hm1.1 hm1.2 hg hn hb hr)
        obtain ⟨hdl, hdu⟩ := hd
        clear hm hm1
        go_wp2_with fail
        rw [HM.out]
        refine (HA.out _ _ _ _).mono ?_
        rintro e w4 ⟨rfl, hb4⟩
        have HB4 := Lib.hid (HB3.out.trans (hb4.mono HB3.out.size))
        clear hb4
        go_wp2_with fail
        refine (HF.out l _ _ HGD.out.1 (by have := HGD.out.2.1.1; omega) (by have := HGD.out.2.1.2; omega) (arrT_rep HL.out.1 (RV.RepL.below HB4.out HR.out))).mono ?_
        rintro e w5 ⟨r1, rfl, hr1, hb5⟩
        obtain ⟨xa, xc, xk, xkc, xv, xvc, rfl, hx1⟩ := hr1.is.list
        have HX1 := Lib.hid hx1
        have HB5 := Lib.hid (HB4.out.trans (hb5.mono HB4.out.size))
        clear hr1 hx1 hb5
        go_wp2_with fail
        refine (listedC_any _ _ _ _ _ _ _ _ _ _).mono ?_
        rintro e w6 ⟨rfl, hb6⟩
        have HX6 := Lib.hid (RV.RepL.below hb6 HX1.out)
        have HB6 := Lib.hid (HB5.out.trans (hb6.mono HB5.out.size))
        clear hb6 HX1
        go_wp2_with fail
        refine (HA.out _ _ _ _).mono ?_
        rintro e w7 ⟨rfl, hb7⟩
        have HX7 := Lib.hid (RV.RepL.below hb7 HX6.out)
        have HB7 := Lib.hid (HB6.out.trans (hb7.mono HB6.out.size))
        clear hb7 HX6
        go_wp2_with fail
        refine (HF.out l' _ _ HGD.out.2.2.1 (by have := HGD.out.2.2.2.1; omega) (by have := HGD.out.2.2.2.2; omega) (arrT_rep HL.out.2 (RV.RepL.below HB7.out HR'.out))).mono ?_
        rintro e w8 ⟨r2, rfl, hr2, hb8⟩
        obtain ⟨ya, yc, yk, ykc, yv, yvc, rfl, hy1⟩ := hr2.is.list
        have HY8 := Lib.hid hy1
        have HX8 := Lib.hid (RV.RepL.below hb8 HX7.out)
        have HB8 := Lib.hid (HB7.out.trans (hb8.mono HB7.out.size))
        clear hr2 hy1 hb8 HX7
        go_wp2_with fail
        refine (listedC_any _ _ _ _ _ _ _ _ _ _).mono ?_
        rintro e w9 ⟨rfl, hb9⟩
        have HX9 := Lib.hid (RV.RepL.below hb9 HX8.out)
        have HY9 := Lib.hid (RV.RepL.below hb9 HY8.out)
        have HB9 := Lib.hid (HB8.out.trans (hb9.mono HB8.out.size))
        clear hb9 HX8 HY8
        have hf1 := flatL_ok m l
        have hf2 := flatL_ok m l'
        have HO1 := Lib.hid hf1
        have HO2 := Lib.hid hf2
        have hz1 : l.length ≤ 100000 ∧ l'.length ≤ 100000 := by have := RV.len_le l; have := RV.len_le l'; have := HGD.out.2.1.1; have := HGD.out.2.2.2.1; omega
        have hz2 : (RV.flatL m l).length ≤ 100000 ∧ (RV.flatL m l').length ≤ 100000 := by have := RV.len_le (RV.flatL m l); have := RV.len_le (RV.flatL m l'); have := HGD.out.2.1.1; have := HGD.out.2.2.2.1; omega
        have HZ1 := Lib.hid hz1
        have HZ2 := Lib.hid hz2
        clear hf1 hf2 hz1 hz2
        go_wp2_with fail
        refine (joined_any l l' a b ca cb _ HZ1.out.1 HZ1.out.2 (RV.RepL.below HB9.out HR.out) (RV.RepL.below HB9.out HR'.out)).mono ?_
        rintro e w10 ⟨ja, jc, rfl, hj10, hb10⟩
        have HJ := Lib.hid hj10
        have HX10 := Lib.hid (RV.RepL.below hb10 HX9.out)
        have HY10 := Lib.hid (RV.RepL.below hb10 HY9.out)
        have HB10 := Lib.hid (HB9.out.trans (hb10.mono HB9.out.size))
        clear hj10 hb10 HX9 HY9
        generalize hlen : (l ++ l').length = n10 at HJ ⊢
        have HLEN := Lib.hid hlen
        clear hlen
        go_wp2_with fail
        refine (HA.out _ _ _ _).mono ?_
        rintro e w11 ⟨rfl, hb11⟩
        have HJ11 := Lib.hid (HJ.out _ hb11)
        have HX11 := Lib.hid (RV.RepL.below hb11 HX10.out)
        have HY11 := Lib.hid (RV.RepL.below hb11 HY10.out)
        have HB11 := Lib.hid (HB10.out.trans (hb11.mono HB10.out.size))
        clear hb11 HX10 HY10 HJ
        have HNB : Hid (RV.nodesL (l ++ l') ≤ 800 ∧ RV.bytesL (l ++ l') ≤ 4000) := Lib.hid (by rw [nodesL_append, bytesL_append]; have := HGD.out; omega)
        have hgj : RV.GoodL (l ++ l') := RV.GoodL.append.2 ⟨HGD.out.1, HGD.out.2.2.1⟩
        have HGJ := Lib.hid hgj
        clear hgj
        go_wp2_with fail
        refine (HF.out (l ++ l') _ _ HGJ.out HNB.out.1 (by have := HNB.out.2; omega) (by rw [← HLEN.out]; exact arrT_rep (by rw [List.length_append]; have := HZ1.out; unfold reachN; omega) HJ11.out)).mono ?_
        rintro e w12 ⟨r3, rfl, hr3, hb12⟩
        have HR3 := Lib.hid hr3
        obtain ⟨za, zc, zk, zkc, zv, zvc, rfl, hz1⟩ := hr3.is.list
        have HX12 := Lib.hid (RV.RepL.below hb12 HX11.out)
        have HY12 := Lib.hid (RV.RepL.below hb12 HY11.out)
        have HB12 := Lib.hid (HB11.out.trans (hb12.mono HB11.out.size))
        have HR12 := Lib.hid hr3.is
        clear hr3 HR3 hz1 hb12 HX11 HY11
        go_wp2_with fail
        refine (joined_any (RV.flatL m l) (RV.flatL m l') xa ya xc yc _ HZ2.out.1 HZ2.out.2 HX12.out HY12.out).mono ?_
        rintro e w13 ⟨ua, uc, rfl, hu13, hb13⟩
        have HU := Lib.hid hu13
        have HR13 := Lib.hid (show ResIs (arrT (RV.flatL m (l ++ l'))) w13 _ by obtain ⟨k, h, t, al, n, cl, ak, mm, ck, av, q, cv, e, hx⟩ := HR12.out; exact ⟨k, h, t, al, n, cl, ak, mm, ck, av, q, cv, e, hx.below hb13⟩)
        have HB13 := Lib.hid (HB12.out.trans (hb13.mono HB12.out.size))
        clear hu13 hb13 HX12 HY12 HR12
        generalize hlen2 : (RV.flatL m l ++ RV.flatL m l').length = n13 at HU ⊢
        have HLEN2 := Lib.hid hlen2
        clear hlen2
        go_wp2_with fail
        refine (HA.out _ _ _ _).mono ?_
        rintro e w14 ⟨rfl, hb14⟩
        have HU14 := Lib.hid (HU.out _ hb14)
        have HR14 := Lib.hid (show ResIs (arrT (RV.flatL m (l ++ l'))) w14 _ by obtain ⟨k, h, t, al, n, cl, ak, mm, ck, av, q, cv, e, hx⟩ := HR13.out; exact ⟨k, h, t, al, n, cl, ak, mm, ck, av, q, cv, e, hx.below hb14⟩)
        have HB14 := Lib.hid (HB13.out.trans (hb14.mono HB13.out.size))
        clear hb14 HU HR13
        go_wp2_with fail
        refine (given_any (arrT (RV.flatL m (l ++ l'))) _ _ _ (arrT_good ((flatL_ok m (l ++ l')).1 HGJ.out)) HR14.out (by rw [flatL_append, ← HLEN2.out]; exact arrT_rep (by rw [List.length_append]; have := HZ2.out; unfold reachN; omega) HU14.out)).mono ?_
        rintro e w15 ⟨rfl, hb15⟩
        have HB15 := Lib.hid (HB14.out.trans (hb15.mono HB14.out.size))
        clear hb15
        go_wp2_with fail
        go_ret
        exact ⟨rfl, HB15.out⟩
    · have hj : ¬ ((l'.length : Int) ≤ 2147483647) := by omega
      go_enter Tryd.func5, Tryd.ntmps5
      go_wp2_with fail
      go_ret
      exact ⟨rfl, Below.refl _ _⟩
  · have hj : ¬ ((l.length : Int) ≤ 2147483647) := by omega
    go_enter Tryd.func5, Tryd.ntmps5
    go_wp2_with fail
    go_ret
    exact ⟨rfl, Below.refl _ _⟩
end Go.Proofs.YtjpcdbopioblaaaDoor
