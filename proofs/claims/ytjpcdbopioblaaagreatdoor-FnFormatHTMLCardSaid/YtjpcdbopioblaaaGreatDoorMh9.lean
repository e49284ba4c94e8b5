/- Texts of this proof laid together by a program: FromGoM, FromGoAll, LawFits, RowsW, Joined0, GoSet, EncArr, SpecJson, TxtM. -/
import Derived.Test.YtjpcdbopioblaaaGreatDoorMh4
import Derived.Test.YtjpcdbopioblaaaGreatDoorMh7
import Derived.Test.YtjpcdbopioblaaaGreatDoorMh8
import Derived.Deep.AppendLies
import Derived.Deep.AppendSrc
import Derived.Deep.RegionHeld3
/- The thin package's way back walked: mapFromGo. -/
namespace Go.Proofs.YtjpcdbopioblaaaGreatDoor
open Go.RowKit

/-- What region 8's loads read. -/
def HeldS (O T : Nat) (slk slv c0 c1 c2 c3 c4 c5 : Value) (W : World) : Prop :=
  W.cell? ⟨O, 4, none⟩ = some slk ∧ W.cell? ⟨O, 5, none⟩ = some slv ∧ W.cell? ⟨T, 0, none⟩ = some c0 ∧ W.cell? ⟨T, 1, none⟩ = some c1 ∧ W.cell? ⟨T, 2, none⟩ = some c2 ∧ W.cell? ⟨T, 3, none⟩ = some c3 ∧ W.cell? ⟨T, 4, none⟩ = some c4 ∧ W.cell? ⟨T, 5, none⟩ = some c5
theorem HeldS.of_mid {O T lo i nk nv : Nat} {slk slv c0 c1 c2 c3 c4 c5 d0 d1 d2 d3 d4 d5 sk sv : Value} {ks : List ByteArray} {vs : List RV} {xs : List Value} {W0 W : World} (h : HeldS O T slk slv c0 c1 c2 c3 c4 c5 W0)
    (hm : Mid lo ks vs i T d0 d1 d2 d3 d4 d5 W0 W sk nk sv nv xs) (hO : O < lo) : HeldS O T slk slv c0 c1 c2 c3 c4 c5 W := by
  obtain ⟨h4, h5, t0, t1, t2, t3, t4, t5⟩ := h
  have o : ∀ j, W.cell? ⟨O, j, none⟩ = W0.cell? ⟨O, j, none⟩ := fun j => World.cell?_of_block (hm.old O hO)
  have t : ∀ j, W.cell? ⟨T, j, none⟩ = W0.cell? ⟨T, j, none⟩ := fun j => World.cell?_of_block hm.tsame
  exact ⟨(o 4).trans h4, (o 5).trans h5, (t 0).trans t0, (t 1).trans t1, (t 2).trans t2, (t 3).trans t3, (t 4).trans t4, (t 5).trans t5⟩
theorem rowK_push {ks : List ByteArray} {i : Nat} {key : ByteArray} (hi : i < ks.length) (hk : ks[i] = key) : ((ks.take i).map fun k => Value.string k) ++ [.string key] = (ks.take (i + 1)).map fun k => Value.string k := by
  rw [List.take_succ_eq_append_getElem hi, List.map_append, hk]; rfl

set_option maxRecDepth 100000 in
set_option maxHeartbeats 4000000 in
theorem mapFromGo_any (n : Nat) (ih : FromIH n) (ks : List ByteArray) (vs : List RV) (r m : Nat) (xs : List Value) (w : World) (base : Nat) (hn : RV.nodesL vs ≤ n) (hg : RV.GoodL vs) (hs : ∀ (j : Nat) (h : j < vs.length), vs[j].Sized)
    (hl : ks.length ≤ 100000) (hkv : ks.length = vs.length) (hks : ∀ k ∈ ks, k.size ≤ 100000) (hu : KeysUp ks) (hm : w.ownsMap Tryz.prog 9 heldR r m (mapD ks xs)) (hxs : xs.length = ks.length) (hv : RV.GoV w base xs vs) :
    Calls Tryz.prog 126 #[.map (some r)] w (FromPost (.mk 6 0 ByteArray.empty [] ks vs) w) := by
  have hrlt := hm.lt
  have hmB : ∀ wx, Below w.heap.size w wx → wx.ownsMap Tryz.prog 9 heldR r m (mapD ks xs) := fun wx hb => by
    obtain ⟨es, clock, h1, h2⟩ := hm
    exact ⟨es, clock, (hb.block r hrlt).trans h1, h2⟩
  have HKV := Lib.hid hkv
  clear hkv
  have HK := Lib.hid (fun (W : World) => keys_call (some r) W)
  have HS := Lib.hid (fun (W : World) (hb : Below w.heap.size w W) => sorted_call r m ks xs W (hmB W hb) hxs hu hl)
  have HB := Lib.hid (fun o o' => ((Below.refl w.heap.size w).alloc (Nat.le_refl _) o).alloc (by simp) o')
  unfold FromPost
  go_enter Tryz.func126, Tryz.ntmps126
  go_wp2_with (go_at_call 155; refine (HK.out _).mono ?_; rintro e w1 ⟨rfl, rfl⟩)
  have hsc := HS.out _ (HB.out (.cells #[.int .i64 0, .int .i64 0, .string ByteArray.empty, .slice none 0 0, .slice none 0 0, .slice none 0 0] 27) (.cells #[.int .i64 6, .int .i64 0, .string ByteArray.empty, .slice none 0 0, .slice none 0 0, .slice none 0 0] 27))
  have e2 : ((w.alloc (.cells #[.int .i64 0, .int .i64 0, .string ByteArray.empty, .slice none 0 0, .slice none 0 0, .slice none 0 0] 27)).alloc (.cells #[.int .i64 6, .int .i64 0, .string ByteArray.empty, .slice none 0 0, .slice none 0 0, .slice none 0 0] 27)).heap.size = w.heap.size + 1 + 1 := by simp
  rw [e2] at hsc
  refine hsc.mono ?_
  rintro e w2 ⟨kv, rfl, hrow, hb2⟩
  have hstart := OutM.start w ks vs kv r w2 hrow hb2
  have HST := Lib.hid hstart
  obtain ⟨va, vn, vc, rfl⟩ : ∃ a n c, kv = .slice a n c := by
    rcases hrow.2 with ⟨e, _⟩ | ⟨g, cp, cu, e, _⟩ <;> exact ⟨_, _, _, e⟩
  obtain rfl : vn = ks.length := by
    rcases hrow.2 with ⟨e, h0⟩ | ⟨g, cp, cu, e, _⟩
    · injection e with _ e _; omega
    · injection e
  clear hsc e2 hrow hb2 hstart
  go_wp2_with fail
  go_loopg [14] (ks.length) (fun gk s14 wr => ∃ (i : Nat) (slk slv : Value), s14 = .int .i64 i ∧ i ≤ ks.length ∧ gk = ks.length - i ∧ Hid (OutM w w2.heap.size (.slice va ks.length vc) ks vs i slk slv wr))
  case atStart => exact ⟨0, .slice none 0 0, .slice none 0 0, rfl, Nat.zero_le _, rfl, HST⟩
  case round =>
    obtain ⟨i, slk, slv, rfl, hi, rfl, HR⟩ := hrel
    by_cases hlt : i < ks.length
    · have hltv : i < vs.length := HKV.out ▸ hlt
      have hltx : i < xs.length := by omega
      obtain ⟨g, hva, gk⟩ : ∃ g, va = some ⟨g, 0, none⟩ ∧ wr.cell? ⟨g, i, none⟩ = some (.string ks[i]) := by
        have hcells := fun g => HR.out.keys.cells (g := g)
        rcases HR.out.keys.2 with ⟨e, h0⟩ | ⟨g, cp, cu, e, _⟩
        · omega
        · injection e with e _ _
          subst e
          have h1 := hcells g rfl i (.string ks[i]) (by simp [hlt])
          have e2 : (⟨g, 0, none⟩ : Addr).add i = ⟨g, 0 + i, none⟩ := add_mk g 0 i
          rw [e2, Nat.zero_add] at h1
          exact ⟨g, rfl, h1⟩
      subst hva
      obtain ⟨key, hkey⟩ : ∃ key, ks[i] = key := ⟨_, rfl⟩
      have hlk : (Instr.lookup 90 (.map (some r)) (.string key) false).run Tryz.prog wr = .ok xs[i] wr := by
        rw [← hkey]
        exact lookup_run wr r m ks xs (hmB wr HR.out.below) hxs hu i hlt hltx (by have := hks ks[i] (List.getElem_mem hlt); unfold maxLen; omega)
      have HGX := Lib.hid (RV.GoV.get (RV.GoV.same (SameFrom.of_below HR.out.below base) hv) i hltv hltx)
      rw [hkey] at gk
      have HKEY := Lib.hid hkey
      have hj1 : (i : Int) < (ks.length : Int) := by omega
      clear hkey hi
      have HIH := Lib.hid ih
      have HGD := Lib.hid (And.intro (hg.get i hltv) (And.intro (hs i hltv) (Nat.le_trans (RV.nodes_le hltv) hn)))
      go_wp2_with fail
      refine (HIH.out vs[i] xs[i] wr base HGD.out.2.2 HGD.out.1 HGD.out.2.1 HGX.out).mono ?_
      rintro e w1 ⟨v, rfl, hh, hb1⟩
      obtain ⟨k, h, t, al, mm, cl, ak, mk, ck, av, mv, cv, rfl⟩ : ∃ k h t al n cl ak m ck av q cv, v = .agg #[.int .i64 k, .int .i64 h, .string t, .slice al n cl, .slice ak m ck, .slice av q cv] := by
        have hr' := hh.rep
        generalize vs[i] = y at hr'
        obtain ⟨k, h, t, l, ks, vs⟩ := y
        unfold RV.Rep at hr'
        obtain ⟨al, cl, ak, ck, av, cv, e, _⟩ := hr'
        exact ⟨_, _, _, _, _, _, _, _, _, _, _, _, e⟩
      have HH := Lib.hid hh
      have HB1 := Lib.hid hb1
      clear hh hb1 HIH HGD gk hlk
      go_wp2_with fail
      have hO : w.heap.size + 1 < w2.heap.size := by have := HR.out.lo2; omega
      obtain ⟨ys, hrv, hel⟩ := HR.out.rowv
      have HMID := Lib.hid (fun (W0 : World) (h0 : Below w1.heap.size w1 W0) (h1 : w1.heap.size < W0.heap.size) => OutM.mid HR.out hltv HB1.out HH.out h0 h1 hrv hel)
      obtain ⟨ik, hik, hkz, hks2, hkb⟩ := info_parts Tryz.infoString
      obtain ⟨iv, hiv, hvz, hvs, hvb⟩ := info_parts Tryz.infoValue
      have HC4 : wr.cell? ⟨w.heap.size + 1, 4, none⟩ = some slk := HR.out.cells 4
      have HC5 : wr.cell? ⟨w.heap.size + 1, 5, none⟩ = some slv := HR.out.cells 5
      have HFR := Lib.hid HR.out.frozen
      have h0 : Below w1.heap.size w1 (World.drew (w1.alloc (.cells #[.int .i64 k, .int .i64 h, .string t, .slice al mm cl, .slice ak mk ck, .slice av mv cv] 27))) := ((Below.refl _ _).alloc (Nat.le_refl _) _).drew
      have hz0 : w1.heap.size < (World.drew (w1.alloc (.cells #[.int .i64 k, .int .i64 h, .string t, .slice al mm cl, .slice ak mk ck, .slice av mv cv] 27))).heap.size := by simp
      have hOr : w.heap.size + 1 < wr.heap.size := by have := HR.out.le; omega
      have hOw : w.heap.size + 1 < w1.heap.size := by have := HB1.out.size; omega
      have hs0 : HeldS (w.heap.size + 1) w1.heap.size slk slv (.int .i64 k) (.int .i64 h) (.string t) (.slice al mm cl) (.slice ak mk ck) (.slice av mv cv) (World.drew (w1.alloc (.cells #[.int .i64 k, .int .i64 h, .string t, .slice al mm cl, .slice ak mk ck, .slice av mv cv] 27))) :=
        ⟨((bcell h0).1 _ _ hOw).trans (((bcell HB1.out).1 _ _ hOr).trans HC4), ((bcell h0).1 _ _ hOw).trans (((bcell HB1.out).1 _ _ hOr).trans HC5), by simp, by simp, by simp, by simp, by simp, by simp⟩
      refine wp_region_kept (HeldS (w.heap.size + 1) w1.heap.size slk slv (.int .i64 k) (.int .i64 h) (.string t) (.slice al mm cl) (.slice ak mk ck) (.slice av mv cv)) 11 (by kernel_rfl) ?_
      generalize (World.drew (w1.alloc (.cells #[.int .i64 k, .int .i64 h, .string t, .slice al mm cl, .slice ak mk ck, .slice av mv cv] 27))) = W0 at h0 hz0 hs0 ⊢
      have HM0 := Lib.hid (HMID.out W0 h0 hz0)
      have HS0 := Lib.hid hs0
      have H0 := Lib.hid h0
      have HI := Lib.hid (And.intro (And.intro hik (And.intro hkz (And.intro hks2 hkb))) (And.intro hiv (And.intro hvz (And.intro hvs hvb))))
      have HLE := Lib.hid HR.out.le
      have HZ1 := Lib.hid HB1.out.size
      clear hrv hel HC4 HC5 h0 hz0 hs0 hik hkz hks2 hkb hiv hvz hvs hvb HMID
      refine wpAnyK_take (v := ?v0) 0 [11] rfl (by kernel_rfl) (by kernel_rfl) (by kernel_rfl) (by kernel_rfl) (by kernel_rfl) (by kernel_rfl) (by kernel_rfl) (fun _ _ _ h => h) (Or.inl ⟨by rfl, ?y0⟩) HS0.out ?r0
      case y0 => (intro W hS; obtain ⟨s4, s5, t0, t1, t2, t3, t4, t5⟩ := hS; go_simp; try with_reducible rfl)
      try simp only [Act.put, List.setIfInBounds_toArray, List.set_cons_zero, List.set_cons_succ]
      refine wpAnyK_take (v := ?v1) 1 [11] rfl (by kernel_rfl) (by kernel_rfl) (by kernel_rfl) (by kernel_rfl) (by kernel_rfl) (by kernel_rfl) (by kernel_rfl) (fun _ _ _ h => h) (Or.inl ⟨by rfl, ?y1⟩) HS0.out ?r1
      case y1 => (intro W hS; obtain ⟨s4, s5, t0, t1, t2, t3, t4, t5⟩ := hS; go_simp; try with_reducible rfl)
      try simp only [Act.put, List.setIfInBounds_toArray, List.set_cons_zero, List.set_cons_succ]
      refine wpAnyK_take (v := ?v2) 2 [11] rfl (by kernel_rfl) (by kernel_rfl) (by kernel_rfl) (by kernel_rfl) (by kernel_rfl) (by kernel_rfl) (by kernel_rfl) (fun _ _ _ h => h) (Or.inl ⟨by rfl, ?y2⟩) HS0.out ?r2
      case y2 => (intro W hS; obtain ⟨s4, s5, t0, t1, t2, t3, t4, t5⟩ := hS; go_simp; try with_reducible rfl)
      try simp only [Act.put, List.setIfInBounds_toArray, List.set_cons_zero, List.set_cons_succ]
      refine wpAnyK_take (v := ?v5) 5 [11] rfl (by kernel_rfl) (by kernel_rfl) (by kernel_rfl) (by kernel_rfl) (by kernel_rfl) (by kernel_rfl) (by kernel_rfl) (fun _ _ _ h => h) (Or.inl ⟨by rfl, ?y5⟩) HS0.out ?r5
      case y5 => (intro W hS; obtain ⟨s4, s5, t0, t1, t2, t3, t4, t5⟩ := hS; go_simp; try with_reducible rfl)
      try simp only [Act.put, List.setIfInBounds_toArray, List.set_cons_zero, List.set_cons_succ]
      refine wpAnyK_take (v := ?v6) 6 [11] rfl (by kernel_rfl) (by kernel_rfl) (by kernel_rfl) (by kernel_rfl) (by kernel_rfl) (by kernel_rfl) (by kernel_rfl) (fun _ _ _ h => h) (Or.inl ⟨by rfl, ?y6⟩) HS0.out ?r6
      case y6 => (intro W hS; obtain ⟨s4, s5, t0, t1, t2, t3, t4, t5⟩ := hS; go_simp; try with_reducible rfl)
      try simp only [Act.put, List.setIfInBounds_toArray, List.set_cons_zero, List.set_cons_succ]
      refine wpAnyK_take (v := ?v7) 7 [8, 9, 11] rfl (by kernel_rfl) (by kernel_rfl) (by kernel_rfl) (by kernel_rfl) (by kernel_rfl) (by kernel_rfl) (by kernel_rfl) (fun _ _ _ h => h) (Or.inl ⟨by rfl, ?y7⟩) HS0.out ?r7
      case y7 => (intro W hS; obtain ⟨s4, s5, t0, t1, t2, t3, t4, t5⟩ := hS; go_simp; try with_reducible rfl)
      try simp only [Act.put, List.setIfInBounds_toArray, List.set_cons_zero, List.set_cons_succ]
      have HBV := Lib.hid (show wr.heap.size ≤ W0.heap.size from Nat.le_trans HZ1.out H0.out.size)
      refine wpAnyK_ready (rs := [3, 8]) (by decide +kernel) (by simp) ?_
      refine (AllReadyK.cons rfl (fun K hK => ?_) (AllReadyK.cons rfl (fun K hK => ?_) AllReadyK.nil))
      · skip
        go_simp
        have HM1 := Lib.hid (HM0.out.alloc (.cells #[.string key] 9))
        have HN1 := Lib.hid (heap_alloc_new W0 (.cells #[.string key] 9))
        refine hK.out _ _ (HS0.out.of_mid HM1.out hO) ?_
        clear hK K
        try simp only [Act.put, List.setIfInBounds_toArray, List.set_cons_zero, List.set_cons_succ]
        generalize W0.alloc (.cells #[.string key] 9) = W1 at HM1 HN1 ⊢
        refine wpAnyK_ready (rs := [4, 8]) (by decide +kernel) (by simp) ?_
        refine (AllReadyK.cons rfl (fun K hK => ?_) (AllReadyK.cons rfl (fun K hK => ?_) AllReadyK.nil))
        · skip
          refine step_append_lies _ (by rfl) _ _ _ (by rfl) w2.heap.size 9 ik (.string ByteArray.empty) 1 16 Tryz.underlying25 HI.out.1.1 HI.out.1.2.1 HI.out.1.2.2.1 HI.out.1.2.2.2 (by rfl) (by decide) slk i ((ks.take i).map fun k => Value.string k) (by rfl) HM1.out.rowk ⟨W0.heap.size, 0, none⟩ 1 1 [.string key] (by rfl) (by rfl) (World.news_of_block HN1.out) (fun x hx => by simp at hx; subst hx; rfl) (by decide) (by unfold maxLen; omega) (by omega) (by have h1 := HM1.out.le; have h2 := HM1.out.size; omega) _ rfl ?_
          intro gk capk W2 hown2 hgrow2 hat2 hlt2
          have HM2 := Lib.hid (HM1.out.pushK (ck' := .slice (some ⟨gk, 0, none⟩) (i + 1) capk) hgrow2 (by unfold RowK; rw [← rowK_push hlt HKEY.out]; exact hown2) (hat2.imp (fun e => e.symm) (fun e => by rw [e]; rfl)))
          clear hown2 hgrow2 hat2 hlt2
          refine hK.out _ _ (HS0.out.of_mid HM2.out hO) ?_
          clear hK K
          try simp only [Act.put, List.setIfInBounds_toArray, List.set_cons_zero, List.set_cons_succ]
          refine wpAnyK_take (v := ?v10x2) 10 [11] rfl (by kernel_rfl) (by kernel_rfl) (by kernel_rfl) (by kernel_rfl) (by kernel_rfl) (by kernel_rfl) (by kernel_rfl) (fun _ _ _ h => h) (Or.inl ⟨by rfl, ?y10x2⟩) (HS0.out.of_mid HM2.out hO) ?r10x2
          case y10x2 => (intro W hS; clear hS; go_simp; try with_reducible rfl)
          try simp only [Act.put, List.setIfInBounds_toArray, List.set_cons_zero, List.set_cons_succ]
          refine wpAnyK_ready (rs := [8]) (by decide +kernel) (by simp) ?_
          refine (AllReadyK.cons rfl (fun K hK => ?_) AllReadyK.nil)
          go_simp
          have HM3 := Lib.hid (HM2.out.alloc (.cells #[.int .i64 k, .int .i64 h, .string t, .slice al mm cl, .slice ak mk ck, .slice av mv cv] 27))
          have HN3 := Lib.hid (heap_alloc_new W2 (.cells #[.int .i64 k, .int .i64 h, .string t, .slice al mm cl, .slice ak mk ck, .slice av mv cv] 27))
          refine hK.out _ _ (HS0.out.of_mid HM3.out hO) ?_
          clear hK K
          try simp only [Act.put, List.setIfInBounds_toArray, List.set_cons_zero, List.set_cons_succ]
          generalize W2.alloc (.cells #[.int .i64 k, .int .i64 h, .string t, .slice al mm cl, .slice ak mk ck, .slice av mv cv] 27) = W3 at HM3 HN3 ⊢
          refine wpAnyK_ready (rs := [9]) (by decide +kernel) (by simp) ?_
          refine (AllReadyK.cons rfl (fun K hK => ?_) AllReadyK.nil)
          refine step_append_lies _ (by rfl) _ _ _ (by rfl) w2.heap.size 27 iv (.agg #[.int .i64 0, .int .i64 0, .string ByteArray.empty, .slice none 0 0, .slice none 0 0, .slice none 0 0]) 6 104 Tryz.underlying22 HI.out.2.1 HI.out.2.2.1 HI.out.2.2.2.1 HI.out.2.2.2.2 (by rfl) (by decide) slv i ys (by rfl) HM3.out.rowv ⟨W2.heap.size, 0, none⟩ 1 1 [.int .i64 k, .int .i64 h, .string t, .slice al mm cl, .slice ak mk ck, .slice av mv cv] (by rfl) (by rfl) (World.news_of_block HN3.out) (fun x hx => by simp at hx; rcases hx with rfl | rfl | rfl | rfl | rfl | rfl <;> rfl) (by decide) (by unfold maxLen; omega) (by omega) (by have h1 := HM3.out.le; have h2 := HM3.out.size; omega) _ rfl ?_
          intro gv capv W4 hown4 hgrow4 hat4 hlt4
          have HM4 := Lib.hid (HM3.out.pushV (cv' := .slice (some ⟨gv, 0, none⟩) (i + 1) capv) hltv hgrow4 hown4 (hat4.imp (fun e => e.symm) (fun e => by rw [e]; rfl)))
          clear hown4 hgrow4 hat4 hlt4
          refine hK.out _ _ (HS0.out.of_mid HM4.out hO) ?_
          clear hK K
          try simp only [Act.put, List.setIfInBounds_toArray, List.set_cons_zero, List.set_cons_succ]
          have hoo : ∀ o, W4.cell? ⟨w.heap.size + 1, o, none⟩ = wr.cell? ⟨w.heap.size + 1, o, none⟩ := fun o => World.cell?_of_block ((HM4.out.old _ hO).trans ((H0.out.block _ hOw).trans (HB1.out.block _ hOr)))
          have q4 : W4.cell? ⟨w.heap.size + 1, 4, none⟩ = some slk := (hoo 4).trans (HR.out.cells 4)
          have q5 : W4.cell? ⟨w.heap.size + 1, 5, none⟩ = some slv := (hoo 5).trans (HR.out.cells 5)
          have ff : ∀ o, W4.frozen? ⟨w.heap.size + 1, o, none⟩ = false := fun o => (World.frozen?_of_block ((HM4.out.old _ hO).trans ((H0.out.block _ hOw).trans (HB1.out.block _ hOr)))).trans (HFR.out o)
          have f4 := ff 4
          have f5 := ff 5
          have HP := Lib.hid (OutM.push HR.out HB1.out H0.out HM4.out)
          clear hoo ff
          refine wpAnyK_ready (rs := [11]) (by decide +kernel) (by simp) ?_
          refine (AllReadyK.cons_k rfl rfl (fun K hK => ?_) AllReadyK.nil)
          go_simp
          refine hK.out _ _ ?_
          clear hK K
          try simp only [Act.put, List.setIfInBounds_toArray, List.set_cons_zero, List.set_cons_succ]
          refine wpAny_ready (rs := [12]) (by decide +kernel) (by simp) ?_
          refine (AllReady.cons rfl (fun K hK => ?_) AllReady.nil)
          go_simp
          refine hK _ _ ?_
          clear hK K
          try simp only [Act.put, List.setIfInBounds_toArray, List.set_cons_zero, List.set_cons_succ]
          refine wpAny_ready (rs := [13]) (by decide +kernel) (by simp) ?_
          refine (AllReady.cons rfl (fun K hK => ?_) AllReady.nil)
          go_simp
          refine hK _ _ ?_
          clear hK K
          try simp only [Act.put, List.setIfInBounds_toArray, List.set_cons_zero, List.set_cons_succ]
          refine wpAny_done (by kernel_rfl) ?_ _
          go_wp2_with fail
          go_roundg (ks.length - (i + 1))
          case measure => omega
          case rel => exact ⟨i + 1, (.slice (some ⟨gk, 0, none⟩) (i + 1) capk), (.slice (some ⟨gv, 0, none⟩) (i + 1) capv), by go_num, by omega, rfl, HP⟩
        · skip
          go_simp
          have HM5 := Lib.hid (HM1.out.alloc (.cells #[.int .i64 k, .int .i64 h, .string t, .slice al mm cl, .slice ak mk ck, .slice av mv cv] 27))
          have HN5 := Lib.hid (heap_alloc_new W1 (.cells #[.int .i64 k, .int .i64 h, .string t, .slice al mm cl, .slice ak mk ck, .slice av mv cv] 27))
          have HK5 := Lib.hid ((Below.heap_alloc W1 (.cells #[.int .i64 k, .int .i64 h, .string t, .slice al mm cl, .slice ak mk ck, .slice av mv cv] 27) _ (Array.getElem?_eq_some_iff.1 HN1.out).1).trans HN1.out)
          refine hK.out _ _ (HS0.out.of_mid HM5.out hO) ?_
          clear hK K
          try simp only [Act.put, List.setIfInBounds_toArray, List.set_cons_zero, List.set_cons_succ]
          generalize W1.alloc (.cells #[.int .i64 k, .int .i64 h, .string t, .slice al mm cl, .slice ak mk ck, .slice av mv cv] 27) = W5 at HM5 HN5 HK5 ⊢
          refine wpAnyK_ready (rs := [4]) (by decide +kernel) (by simp) ?_
          refine (AllReadyK.cons rfl (fun K hK => ?_) AllReadyK.nil)
          refine step_append_lies _ (by rfl) _ _ _ (by rfl) w2.heap.size 9 ik (.string ByteArray.empty) 1 16 Tryz.underlying25 HI.out.1.1 HI.out.1.2.1 HI.out.1.2.2.1 HI.out.1.2.2.2 (by rfl) (by decide) slk i ((ks.take i).map fun k => Value.string k) (by rfl) HM5.out.rowk ⟨W0.heap.size, 0, none⟩ 1 1 [.string key] (by rfl) (by rfl) (World.news_of_block HK5.out) (fun x hx => by simp at hx; subst hx; rfl) (by decide) (by unfold maxLen; omega) (by omega) (by have h1 := HM5.out.le; have h2 := HM5.out.size; omega) _ rfl ?_
          intro gk capk W6 hown6 hgrow6 hat6 hlt6
          have HM6 := Lib.hid (HM5.out.pushK (ck' := .slice (some ⟨gk, 0, none⟩) (i + 1) capk) hgrow6 (by unfold RowK; rw [← rowK_push hlt HKEY.out]; exact hown6) (hat6.imp (fun e => e.symm) (fun e => by rw [e]; rfl)))
          have HV6 := Lib.hid ((hgrow6.block _ (Array.getElem?_eq_some_iff.1 HN5.out).1 (fun e => by have h1 := (HM0.out.rowk.lt _ e.symm).2; have h2 := HBV.out; have h3 := HM1.out.size; omega)).trans HN5.out)
          clear hown6 hgrow6 hat6 hlt6
          refine hK.out _ _ (HS0.out.of_mid HM6.out hO) ?_
          clear hK K
          try simp only [Act.put, List.setIfInBounds_toArray, List.set_cons_zero, List.set_cons_succ]
          refine wpAnyK_take (v := ?v10x6) 10 [11] rfl (by kernel_rfl) (by kernel_rfl) (by kernel_rfl) (by kernel_rfl) (by kernel_rfl) (by kernel_rfl) (by kernel_rfl) (fun _ _ _ h => h) (Or.inl ⟨by rfl, ?y10x6⟩) (HS0.out.of_mid HM6.out hO) ?r10x6
          case y10x6 => (intro W hS; clear hS; go_simp; try with_reducible rfl)
          try simp only [Act.put, List.setIfInBounds_toArray, List.set_cons_zero, List.set_cons_succ]
          refine wpAnyK_ready (rs := [9]) (by decide +kernel) (by simp) ?_
          refine (AllReadyK.cons rfl (fun K hK => ?_) AllReadyK.nil)
          refine step_append_lies _ (by rfl) _ _ _ (by rfl) w2.heap.size 27 iv (.agg #[.int .i64 0, .int .i64 0, .string ByteArray.empty, .slice none 0 0, .slice none 0 0, .slice none 0 0]) 6 104 Tryz.underlying22 HI.out.2.1 HI.out.2.2.1 HI.out.2.2.2.1 HI.out.2.2.2.2 (by rfl) (by decide) slv i ys (by rfl) HM6.out.rowv ⟨W1.heap.size, 0, none⟩ 1 1 [.int .i64 k, .int .i64 h, .string t, .slice al mm cl, .slice ak mk ck, .slice av mv cv] (by rfl) (by rfl) (World.news_of_block HV6.out) (fun x hx => by simp at hx; rcases hx with rfl | rfl | rfl | rfl | rfl | rfl <;> rfl) (by decide) (by unfold maxLen; omega) (by omega) (by have h1 := HM6.out.le; have h2 := HM6.out.size; omega) _ rfl ?_
          intro gv capv W7 hown7 hgrow7 hat7 hlt7
          have HM7 := Lib.hid (HM6.out.pushV (cv' := .slice (some ⟨gv, 0, none⟩) (i + 1) capv) hltv hgrow7 hown7 (hat7.imp (fun e => e.symm) (fun e => by rw [e]; rfl)))
          clear hown7 hgrow7 hat7 hlt7
          refine hK.out _ _ (HS0.out.of_mid HM7.out hO) ?_
          clear hK K
          try simp only [Act.put, List.setIfInBounds_toArray, List.set_cons_zero, List.set_cons_succ]
          have hoo : ∀ o, W7.cell? ⟨w.heap.size + 1, o, none⟩ = wr.cell? ⟨w.heap.size + 1, o, none⟩ := fun o => World.cell?_of_block ((HM7.out.old _ hO).trans ((H0.out.block _ hOw).trans (HB1.out.block _ hOr)))
          have q4 : W7.cell? ⟨w.heap.size + 1, 4, none⟩ = some slk := (hoo 4).trans (HR.out.cells 4)
          have q5 : W7.cell? ⟨w.heap.size + 1, 5, none⟩ = some slv := (hoo 5).trans (HR.out.cells 5)
          have ff : ∀ o, W7.frozen? ⟨w.heap.size + 1, o, none⟩ = false := fun o => (World.frozen?_of_block ((HM7.out.old _ hO).trans ((H0.out.block _ hOw).trans (HB1.out.block _ hOr)))).trans (HFR.out o)
          have f4 := ff 4
          have f5 := ff 5
          have HP := Lib.hid (OutM.push HR.out HB1.out H0.out HM7.out)
          clear hoo ff
          refine wpAnyK_ready (rs := [11]) (by decide +kernel) (by simp) ?_
          refine (AllReadyK.cons_k rfl rfl (fun K hK => ?_) AllReadyK.nil)
          go_simp
          refine hK.out _ _ ?_
          clear hK K
          try simp only [Act.put, List.setIfInBounds_toArray, List.set_cons_zero, List.set_cons_succ]
          refine wpAny_ready (rs := [12]) (by decide +kernel) (by simp) ?_
          refine (AllReady.cons rfl (fun K hK => ?_) AllReady.nil)
          go_simp
          refine hK _ _ ?_
          clear hK K
          try simp only [Act.put, List.setIfInBounds_toArray, List.set_cons_zero, List.set_cons_succ]
          refine wpAny_ready (rs := [13]) (by decide +kernel) (by simp) ?_
          refine (AllReady.cons rfl (fun K hK => ?_) AllReady.nil)
          go_simp
          refine hK _ _ ?_
          clear hK K
          try simp only [Act.put, List.setIfInBounds_toArray, List.set_cons_zero, List.set_cons_succ]
          refine wpAny_done (by kernel_rfl) ?_ _
          go_wp2_with fail
          go_roundg (ks.length - (i + 1))
          case measure => omega
          case rel => exact ⟨i + 1, (.slice (some ⟨gk, 0, none⟩) (i + 1) capk), (.slice (some ⟨gv, 0, none⟩) (i + 1) capv), by go_num, by omega, rfl, HP⟩
      · skip
        go_simp
        have HM8 := Lib.hid (HM0.out.alloc (.cells #[.int .i64 k, .int .i64 h, .string t, .slice al mm cl, .slice ak mk ck, .slice av mv cv] 27))
        have HN8 := Lib.hid (heap_alloc_new W0 (.cells #[.int .i64 k, .int .i64 h, .string t, .slice al mm cl, .slice ak mk ck, .slice av mv cv] 27))
        refine hK.out _ _ (HS0.out.of_mid HM8.out hO) ?_
        clear hK K
        try simp only [Act.put, List.setIfInBounds_toArray, List.set_cons_zero, List.set_cons_succ]
        generalize W0.alloc (.cells #[.int .i64 k, .int .i64 h, .string t, .slice al mm cl, .slice ak mk ck, .slice av mv cv] 27) = W8 at HM8 HN8 ⊢
        refine wpAnyK_ready (rs := [3]) (by decide +kernel) (by simp) ?_
        refine (AllReadyK.cons rfl (fun K hK => ?_) AllReadyK.nil)
        go_simp
        have HM9 := Lib.hid (HM8.out.alloc (.cells #[.string key] 9))
        have HN9 := Lib.hid (heap_alloc_new W8 (.cells #[.string key] 9))
        have HV9 := Lib.hid ((Below.heap_alloc W8 (.cells #[.string key] 9) _ (Array.getElem?_eq_some_iff.1 HN8.out).1).trans HN8.out)
        refine hK.out _ _ (HS0.out.of_mid HM9.out hO) ?_
        clear hK K
        try simp only [Act.put, List.setIfInBounds_toArray, List.set_cons_zero, List.set_cons_succ]
        generalize W8.alloc (.cells #[.string key] 9) = W9 at HM9 HN9 HV9 ⊢
        refine wpAnyK_ready (rs := [4]) (by decide +kernel) (by simp) ?_
        refine (AllReadyK.cons rfl (fun K hK => ?_) AllReadyK.nil)
        refine step_append_lies _ (by rfl) _ _ _ (by rfl) w2.heap.size 9 ik (.string ByteArray.empty) 1 16 Tryz.underlying25 HI.out.1.1 HI.out.1.2.1 HI.out.1.2.2.1 HI.out.1.2.2.2 (by rfl) (by decide) slk i ((ks.take i).map fun k => Value.string k) (by rfl) HM9.out.rowk ⟨W8.heap.size, 0, none⟩ 1 1 [.string key] (by rfl) (by rfl) (World.news_of_block HN9.out) (fun x hx => by simp at hx; subst hx; rfl) (by decide) (by unfold maxLen; omega) (by omega) (by have h1 := HM9.out.le; have h2 := HM9.out.size; omega) _ rfl ?_
        intro gk capk W10 hown10 hgrow10 hat10 hlt10
        have HM10 := Lib.hid (HM9.out.pushK (ck' := .slice (some ⟨gk, 0, none⟩) (i + 1) capk) hgrow10 (by unfold RowK; rw [← rowK_push hlt HKEY.out]; exact hown10) (hat10.imp (fun e => e.symm) (fun e => by rw [e]; rfl)))
        have HV10 := Lib.hid ((hgrow10.block _ (Array.getElem?_eq_some_iff.1 HV9.out).1 (fun e => by have h1 := (HM0.out.rowk.lt _ e.symm).2; have h2 := HBV.out; have h3 := HM0.out.size; omega)).trans HV9.out)
        clear hown10 hgrow10 hat10 hlt10
        refine hK.out _ _ (HS0.out.of_mid HM10.out hO) ?_
        clear hK K
        try simp only [Act.put, List.setIfInBounds_toArray, List.set_cons_zero, List.set_cons_succ]
        refine wpAnyK_take (v := ?v10x10) 10 [11] rfl (by kernel_rfl) (by kernel_rfl) (by kernel_rfl) (by kernel_rfl) (by kernel_rfl) (by kernel_rfl) (by kernel_rfl) (fun _ _ _ h => h) (Or.inl ⟨by rfl, ?y10x10⟩) (HS0.out.of_mid HM10.out hO) ?r10x10
        case y10x10 => (intro W hS; clear hS; go_simp; try with_reducible rfl)
        try simp only [Act.put, List.setIfInBounds_toArray, List.set_cons_zero, List.set_cons_succ]
        refine wpAnyK_ready (rs := [9]) (by decide +kernel) (by simp) ?_
        refine (AllReadyK.cons rfl (fun K hK => ?_) AllReadyK.nil)
        refine step_append_lies _ (by rfl) _ _ _ (by rfl) w2.heap.size 27 iv (.agg #[.int .i64 0, .int .i64 0, .string ByteArray.empty, .slice none 0 0, .slice none 0 0, .slice none 0 0]) 6 104 Tryz.underlying22 HI.out.2.1 HI.out.2.2.1 HI.out.2.2.2.1 HI.out.2.2.2.2 (by rfl) (by decide) slv i ys (by rfl) HM10.out.rowv ⟨W0.heap.size, 0, none⟩ 1 1 [.int .i64 k, .int .i64 h, .string t, .slice al mm cl, .slice ak mk ck, .slice av mv cv] (by rfl) (by rfl) (World.news_of_block HV10.out) (fun x hx => by simp at hx; rcases hx with rfl | rfl | rfl | rfl | rfl | rfl <;> rfl) (by decide) (by unfold maxLen; omega) (by omega) (by have h1 := HM10.out.le; have h2 := HM10.out.size; omega) _ rfl ?_
        intro gv capv W11 hown11 hgrow11 hat11 hlt11
        have HM11 := Lib.hid (HM10.out.pushV (cv' := .slice (some ⟨gv, 0, none⟩) (i + 1) capv) hltv hgrow11 hown11 (hat11.imp (fun e => e.symm) (fun e => by rw [e]; rfl)))
        clear hown11 hgrow11 hat11 hlt11
        refine hK.out _ _ (HS0.out.of_mid HM11.out hO) ?_
        clear hK K
        try simp only [Act.put, List.setIfInBounds_toArray, List.set_cons_zero, List.set_cons_succ]
        have hoo : ∀ o, W11.cell? ⟨w.heap.size + 1, o, none⟩ = wr.cell? ⟨w.heap.size + 1, o, none⟩ := fun o => World.cell?_of_block ((HM11.out.old _ hO).trans ((H0.out.block _ hOw).trans (HB1.out.block _ hOr)))
        have q4 : W11.cell? ⟨w.heap.size + 1, 4, none⟩ = some slk := (hoo 4).trans (HR.out.cells 4)
        have q5 : W11.cell? ⟨w.heap.size + 1, 5, none⟩ = some slv := (hoo 5).trans (HR.out.cells 5)
        have ff : ∀ o, W11.frozen? ⟨w.heap.size + 1, o, none⟩ = false := fun o => (World.frozen?_of_block ((HM11.out.old _ hO).trans ((H0.out.block _ hOw).trans (HB1.out.block _ hOr)))).trans (HFR.out o)
        have f4 := ff 4
        have f5 := ff 5
        have HP := Lib.hid (OutM.push HR.out HB1.out H0.out HM11.out)
        clear hoo ff
        refine wpAnyK_ready (rs := [11]) (by decide +kernel) (by simp) ?_
        refine (AllReadyK.cons_k rfl rfl (fun K hK => ?_) AllReadyK.nil)
        go_simp
        refine hK.out _ _ ?_
        clear hK K
        try simp only [Act.put, List.setIfInBounds_toArray, List.set_cons_zero, List.set_cons_succ]
        refine wpAny_ready (rs := [12]) (by decide +kernel) (by simp) ?_
        refine (AllReady.cons rfl (fun K hK => ?_) AllReady.nil)
        go_simp
        refine hK _ _ ?_
        clear hK K
        try simp only [Act.put, List.setIfInBounds_toArray, List.set_cons_zero, List.set_cons_succ]
        refine wpAny_ready (rs := [13]) (by decide +kernel) (by simp) ?_
        refine (AllReady.cons rfl (fun K hK => ?_) AllReady.nil)
        go_simp
        refine hK _ _ ?_
        clear hK K
        try simp only [Act.put, List.setIfInBounds_toArray, List.set_cons_zero, List.set_cons_succ]
        refine wpAny_done (by kernel_rfl) ?_ _
        go_wp2_with fail
        go_roundg (ks.length - (i + 1))
        case measure => omega
        case rel => exact ⟨i + 1, (.slice (some ⟨gk, 0, none⟩) (i + 1) capk), (.slice (some ⟨gv, 0, none⟩) (i + 1) capv), by go_num, by omega, rfl, HP⟩
    · have hil : i = ks.length := by omega
      subst hil
      obtain ⟨ys, hrv, hel⟩ := HR.out.rowv
      obtain ⟨ka, kcap, rfl, hkf⟩ := HR.out.rowk.keysAt (fun k hk => Nat.le_trans (hks k hk) (by unfold reachN; decide))
      rw [HKV.out] at hrv
      obtain ⟨sa, scap, rfl, hvf⟩ := rows_repL hrv (fun j hj hl => hel j (by rw [HKV.out]; exact hj) hl)
      have HKF := Lib.hid hkf
      have HVF := Lib.hid hvf
      have q0 := HR.out.cells 0
      have q1 := HR.out.cells 1
      have q2 := HR.out.cells 2
      have q3 := HR.out.cells 3
      have q4 := HR.out.cells 4
      have q5 := HR.out.cells 5
      have r0 := HR.out.res 0
      have r1 := HR.out.res 1
      have r2 := HR.out.res 2
      have r3 := HR.out.res 3
      have r4 := HR.out.res 4
      have r5 := HR.out.res 5
      have rf := HR.out.rfrozen
      simp only [List.getElem?_toArray, List.getElem?_cons_zero, List.getElem?_cons_succ] at q0 q1 q2 q3 q4 q5 r0 r1 r2 r3 r4 r5
      have HLO := Lib.hid HR.out.lo2
      clear hkf hvf hi hlt hrv hel hm
      go_wp2_with fail
      refine bodyPost_ret (v := .tuple #[.agg #[.int .i64 6, .int .i64 0, .string ByteArray.empty, .slice none 0 0, .slice ka ks.length kcap, .slice sa vs.length scap], .bool true]) (by rw [results_cell_tmp rfl]; go_simp) rfl ?_
      have fin : ∀ wx, wr.grownBy wx (some w.heap.size) → (∃ v, Ending.returned (.tuple #[.agg #[.int .i64 6, .int .i64 0, .string ByteArray.empty, .slice none 0 0, .slice ka ks.length kcap, .slice sa vs.length scap], .bool true]) = Ending.returned (.tuple #[v, .bool true]) ∧ RV.Here w.heap.size wx v (.mk 6 0 ByteArray.empty [] ks vs) ∧ Below w.heap.size w wx) := fun wx hgb => by
        have hlo := HLO.out
        have hkv := HKV.out
        refine ⟨_, rfl, fun wy hx => ?_, below_gb HR.out.below hgb HR.out.below.size (Nat.le_refl _)⟩
        have hsame : SameFrom w2.heap.size wr wy := fun kk hb hk => (hx kk (by omega) (Nat.lt_of_lt_of_le hk hgb.size)).trans (hgb.block kk hk (fun e => by injection e; omega))
        unfold RV.Rep
        exact ⟨none, 0, ka, kcap, sa, scap, rfl, by unfold I64; omega, by unfold I64; omega, by decide, by simp, by unfold reachN; omega, by unfold reachN; omega, by unfold RV.RepL; trivial, HKF.out wy hsame, HVF.out wy hsame⟩
      with_reducible refine fin _ ?_
      repeat' (with_reducible first | exact World.grownBy.refl _ _ | refine gb_alloc ?_ _ | refine gb_set ?_ _ _)
end Go.Proofs.YtjpcdbopioblaaaGreatDoor

/- The thin package's way back, whole: fromGo at every value. -/
namespace Go.Proofs.YtjpcdbopioblaaaGreatDoor
open Go.RowKit

theorem RV.bytes_le {l : List RV} {j : Nat} (h : j < l.length) : l[j].bytes ≤ RV.bytesL l := by
  induction l generalizing j with
  | nil => simp at h
  | cons x xs ih =>
    cases j with
    | zero => simp [RV.bytesL]
    | succ j => simp only [List.getElem_cons_succ, RV.bytesL]; have := ih (j := j) (by simpa using h); omega
theorem keysSize_mem {ks : List ByteArray} {k : ByteArray} (h : k ∈ ks) : k.size ≤ keysSize ks := by
  induction ks with
  | nil => cases h
  | cons x xs ih =>
    unfold keysSize
    rcases List.mem_cons.1 h with rfl | h
    · omega
    · have := ih h; omega

/-- A value that came back, by its cells' kinds. -/
theorem RV.Here.shape {base : Nat} {w : World} {v : Value} {y : RV} (h : y.Here base w v) : ∃ k h t al n cl ak m ck av q cv, v = .agg #[.int .i64 k, .int .i64 h, .string t, .slice al n cl, .slice ak m ck, .slice av q cv] := by
  have hr' := h.rep
  obtain ⟨k, h, t, l, ks, vs⟩ := y
  unfold RV.Rep at hr'
  obtain ⟨al, cl, ak, ck, av, cv, e, _⟩ := hr'
  exact ⟨_, _, _, _, _, _, _, _, _, _, _, _, e⟩

set_option maxRecDepth 100000 in
set_option maxHeartbeats 1600000 in
/-- fromGo at a list or a map: what listFromGo, mapFromGo give. -/
theorem fromGo_list (y : RV) (a : Option Addr) (n c : Nat) (w : World) (hL : ∀ w', Below w.heap.size w w' → Calls Tryz.prog 125 #[.slice a n c] w' (FromPost y w')) :
    Calls Tryz.prog 75 #[.iface 87 (.slice a n c)] w (FromPost y w) := by
  have HL := Lib.hid (fun o => hL _ ((Below.refl _ _).alloc (Nat.le_refl _) o))
  clear hL
  have HB := Lib.hid (fun o => (Below.refl w.heap.size w).alloc (Nat.le_refl _) o)
  have a_bool := as_list_bool
  have a_int := as_list_int
  have a_float := as_list_float
  have a_str := as_list_str
  have a_list := as_list_list
  unfold FromPost
  go_enter Tryz.func75, Tryz.ntmps75
  go_wp2_with fail
  refine (HL.out _).mono ?_
  rintro e w1 ⟨v, rfl, hr, hb1⟩
  have HB1 := Lib.hid ((HB.out _).trans (hb1.mono (by simp)))
  have HR := Lib.hid hr
  obtain ⟨k, h, t, al, n, cl, ak, m, ck, av, q, cv, rfl⟩ := hr.shape
  clear hr
  obtain ⟨hc1', hf1'⟩ := bcell hb1
  have hz1 := hb1.size
  simp at hz1
  clear hb1
  have hy1 : w.heap.size < w1.heap.size := by omega
  have hy2 : w.heap.size ≠ w1.heap.size := by omega
  have hc1 := fun o => hc1' w.heap.size o (by simp)
  have hf1 := fun o => hf1' w.heap.size o (by simp)
  clear hc1' hf1'
  go_wp2_with fail
  refine bodyPost_ret (v := .tuple #[.agg #[.int .i64 k, .int .i64 h, .string t, .slice al n cl, .slice ak m ck, .slice av q cv], .bool true]) (by rw [results_cell_tmp rfl]; go_simp) rfl ?_
  have fin : ∀ wx, w1.grownBy wx (some w.heap.size) → (∃ r, Ending.returned (.tuple #[.agg #[.int .i64 k, .int .i64 h, .string t, .slice al n cl, .slice ak m ck, .slice av q cv], .bool true]) = Ending.returned (.tuple #[r, .bool true]) ∧ RV.Here w.heap.size wx r y ∧ Below w.heap.size w wx) := fun wx hgb => by
    refine ⟨_, rfl, fun wy hx => HR.out wy fun kk hb hk => ?_, below_gb HB1.out hgb HB1.out.size (Nat.le_refl _)⟩
    have hb' : w.heap.size + 1 ≤ kk := by simpa using hb
    exact (hx kk (by omega) (Nat.lt_of_lt_of_le hk hgb.size)).trans (hgb.block kk hk (fun e => by injection e; omega))
  with_reducible refine fin _ ?_
  repeat' (with_reducible first | exact World.grownBy.refl _ _ | refine gb_alloc ?_ _ | refine gb_set ?_ _ _)

set_option maxRecDepth 100000 in
set_option maxHeartbeats 1600000 in
theorem fromGo_map (y : RV) (r : Nat) (w : World) (hL : ∀ w', Below w.heap.size w w' → Calls Tryz.prog 126 #[.map (some r)] w' (FromPost y w')) :
    Calls Tryz.prog 75 #[.iface 90 (.map (some r))] w (FromPost y w) := by
  have HL := Lib.hid (fun o => hL _ ((Below.refl _ _).alloc (Nat.le_refl _) o))
  clear hL
  have HB := Lib.hid (fun o => (Below.refl w.heap.size w).alloc (Nat.le_refl _) o)
  have a_bool := as_map_bool
  have a_int := as_map_int
  have a_float := as_map_float
  have a_str := as_map_str
  have a_list := as_map_list
  have a_map := as_map_map
  unfold FromPost
  go_enter Tryz.func75, Tryz.ntmps75
  go_wp2_with fail
  refine (HL.out _).mono ?_
  rintro e w1 ⟨v, rfl, hr, hb1⟩
  have HB1 := Lib.hid ((HB.out _).trans (hb1.mono (by simp)))
  have HR := Lib.hid hr
  obtain ⟨k, h, t, al, n, cl, ak, m, ck, av, q, cv, rfl⟩ := hr.shape
  clear hr
  obtain ⟨hc1', hf1'⟩ := bcell hb1
  have hz1 := hb1.size
  simp at hz1
  clear hb1
  have hy1 : w.heap.size < w1.heap.size := by omega
  have hy2 : w.heap.size ≠ w1.heap.size := by omega
  have hc1 := fun o => hc1' w.heap.size o (by simp)
  have hf1 := fun o => hf1' w.heap.size o (by simp)
  clear hc1' hf1'
  go_wp2_with fail
  refine bodyPost_ret (v := .tuple #[.agg #[.int .i64 k, .int .i64 h, .string t, .slice al n cl, .slice ak m ck, .slice av q cv], .bool true]) (by rw [results_cell_tmp rfl]; go_simp) rfl ?_
  have fin : ∀ wx, w1.grownBy wx (some w.heap.size) → (∃ r, Ending.returned (.tuple #[.agg #[.int .i64 k, .int .i64 h, .string t, .slice al n cl, .slice ak m ck, .slice av q cv], .bool true]) = Ending.returned (.tuple #[r, .bool true]) ∧ RV.Here w.heap.size wx r y ∧ Below w.heap.size w wx) := fun wx hgb => by
    refine ⟨_, rfl, fun wy hx => HR.out wy fun kk hb hk => ?_, below_gb HB1.out hgb HB1.out.size (Nat.le_refl _)⟩
    have hb' : w.heap.size + 1 ≤ kk := by simpa using hb
    exact (hx kk (by omega) (Nat.lt_of_lt_of_le hk hgb.size)).trans (hgb.block kk hk (fun e => by injection e; omega))
  with_reducible refine fin _ ?_
  repeat' (with_reducible first | exact World.grownBy.refl _ _ | refine gb_alloc ?_ _ | refine gb_set ?_ _ _)

/-- The parts of a value whose sizes are bounded are so. -/
theorem RV.Sized.part {k h : Int} {t : ByteArray} {l : List RV} {ks : List ByteArray} {vs : List RV} (hs : (RV.mk k h t l ks vs).Sized) :
    (∀ (j : Nat) (h : j < l.length), l[j].Sized) ∧ (∀ (j : Nat) (h : j < vs.length), vs[j].Sized) ∧ l.length ≤ 100000 ∧ vs.length ≤ 100000 ∧ ∀ k ∈ ks, k.size ≤ 100000 := by
  obtain ⟨h1, h2⟩ := hs
  unfold RV.nodes at h1
  unfold RV.bytes at h2
  refine ⟨fun j hj => ?_, fun j hj => ?_, ?_, ?_, fun k hk => ?_⟩
  · have a := RV.nodes_le hj
    have b := RV.bytes_le hj
    exact ⟨by omega, by omega⟩
  · have a := RV.nodes_le hj
    have b := RV.bytes_le hj
    exact ⟨by omega, by omega⟩
  · have := RV.len_le l; omega
  · have := RV.len_le vs; omega
  · have := keysSize_mem hk; omega

theorem fromGo_all : ∀ n, FromIH n := by
  intro n
  induction n with
  | zero => intro y x w base hn; have := y.nodes_pos; omega
  | succ n ih =>
    intro y x w base hn hg hs hy
    obtain ⟨k, h, t, l, ks, vs⟩ := y
    obtain ⟨p1, p2, p3, p4, p5⟩ := hs.part
    obtain ⟨r3, r4, r5, r6, hk0, hk6, hh0, hh1, gl, gv⟩ := hg.rest
    have hn' : RV.nodesL l ≤ n ∧ RV.nodesL vs ≤ n := by unfold RV.nodes at hn; omega
    by_cases k5 : k = 5
    · subst k5
      obtain ⟨e6, e7⟩ := r6 (by decide)
      have e1 := r3 (by decide)
      have e2 := r4 (by decide)
      subst e1 e2 e6 e7
      unfold RV.Go at hy
      rcases hy with ⟨e, _⟩ | ⟨e, _⟩ | ⟨e, _⟩ | ⟨e, _⟩ | ⟨e, _⟩ | ⟨_, a, cap, rfl, hl⟩ | ⟨e, _⟩
      · cases e
      · cases e
      · cases e
      · cases e
      · cases e
      · exact fromGo_list _ a l.length cap w fun w' hb => listFromGo_any n ih l a cap w' base hn'.1 gl p1 p3 (RV.GoL.same (SameFrom.of_below hb base) hl)
      · cases e
    · by_cases k6 : k = 6
      · subst k6
        have e5 := r5 (by decide)
        have e1 := r3 (by decide)
        have e2 := r4 (by decide)
        subst e1 e2 e5
        have hlen : ks.length = vs.length := by unfold RV.Good at hg; exact hg.2.2.2.2.2.2.1
        have hup : KeysUp ks := by unfold RV.Good at hg; exact hg.2.2.2.2.2.2.2.2.2.2.2.2.2.1
        unfold RV.Go at hy
        rcases hy with ⟨e, _⟩ | ⟨e, _⟩ | ⟨e, _⟩ | ⟨e, _⟩ | ⟨e, _⟩ | ⟨e, _⟩ | ⟨_, r, m, xs, rfl, hb, hm, hmap, hxs, hv⟩
        · cases e
        · cases e
        · cases e
        · cases e
        · cases e
        · cases e
        · exact fromGo_map _ r w fun w' hb' => mapFromGo_any n ih ks vs r m xs w' base hn'.2 gv p2 (by omega) hlen p5 hup ((SameFrom.of_below hb' base).map hb hmap) hxs (RV.GoV.same (SameFrom.of_below hb' base) hv)
      · exact fromGo_flat _ x w base hg hs hy fun k' h' t' l' ks' vs' e => by injection e with e1; subst e1; exact ⟨k5, k6⟩
/-- The way back of every right value. -/
theorem fromGo_any (y : RV) (x : Value) (w : World) (base : Nat) (hg : y.Good) (hs : y.Sized) (hy : y.Go w base x) : Calls Tryz.prog 75 #[x] w (FromPost y w) :=
  fromGo_all y.nodes y x w base (Nat.le_refl _) hg hs hy
theorem result_all (y : RV) (x : Value) (w : World) (base : Nat) (hg : y.Good) (hs : y.Sized) (hy : y.Go w base x) : Calls Tryz.prog 36 #[x] w (ResPost y w) :=
  result_any y x w base hy fun w' hb => fromGo_any y x w' base hg hs (RV.Go.same (SameFrom.of_below hb base) hy)
end Go.Proofs.YtjpcdbopioblaaaGreatDoor

/- Small functions of the laws walked: array, fits. -/
namespace Go.Proofs.YtjpcdbopioblaaaGreatDoor
open Go.RowKit

/-- A list as a value. -/
def arrT (l : List RV) : RV := .mk 5 0 ByteArray.empty l [] []
theorem arrT_good {l : List RV} (h : RV.GoodL l) : (arrT l).Good := by
  unfold arrT RV.Good
  exact ⟨by decide, by decide, .inr rfl, .inr rfl, .inl rfl, .inr rfl, rfl, by decide, by decide, .inl rfl, by decide, h, by simp, by intro i hi; simp at hi, by unfold RV.GoodL; trivial⟩
theorem arrT_nodes (l : List RV) : (arrT l).nodes = 1 + RV.nodesL l := by simp [arrT, RV.nodes, RV.nodesL]
theorem arrT_bytes (l : List RV) : (arrT l).bytes = RV.bytesL l := by
  have : ByteArray.empty.size = 0 := rfl
  simp [arrT, RV.bytes, RV.bytesL, keysSize, this]
theorem arrT_sized {l : List RV} (h1 : RV.nodesL l ≤ 99999) (h2 : RV.bytesL l ≤ 100000) : (arrT l).Sized :=
  ⟨by rw [arrT_nodes]; omega, by rw [arrT_bytes]; exact h2⟩
theorem arrT_rep {w : World} {l : List RV} {a : Option Addr} {c : Nat} (hl : l.length ≤ reachN) (h : RV.RepL w a 0 l) :
    (arrT l).Rep w (.agg #[.int .i64 5, .int .i64 0, .string ByteArray.empty, .slice a l.length c, .slice none 0 0, .slice none 0 0]) := by
  unfold arrT RV.Rep
  exact ⟨a, c, none, 0, none, 0, rfl, by unfold I64; omega, by unfold I64; omega, by decide, hl, by simp, by simp, h, trivial, by unfold RV.RepL; trivial⟩

set_option maxRecDepth 100000 in
theorem array_c (a : Option Addr) (n c : Nat) (w : World) :
    Calls Tryz.prog 8 #[.slice a n c] w fun e w' => e = .returned (.agg #[.int .i64 5, .int .i64 0, .string ByteArray.empty, .slice a n c, .slice none 0 0, .slice none 0 0]) ∧ Below w.heap.size w w' := by
  have HB := Lib.hid (fun o => (Below.refl w.heap.size w).alloc (Nat.le_refl _) o)
  go_enter Tryz.func8, Tryz.ntmps8
  go_wp2_with fail
  refine bodyPost_ret (v := .agg #[.int .i64 5, .int .i64 0, .string ByteArray.empty, .slice a n c, .slice none 0 0, .slice none 0 0]) (by rw [results_cell rfl]; go_simp; rfl) rfl ?_
  exact ⟨rfl, HB.out _⟩

def FitsPost (l : List RV) (w : World) (e : Ending) (w' : World) : Prop :=
  ∃ b, e = .returned (.bool b) ∧ Below w.heap.size w w' ∧ (b = true → ∀ (j : Nat) (h : j < l.length), l[j].Good ∧ l[j].nodes ≤ 400 ∧ l[j].bytes ≤ 2000)

set_option maxRecDepth 100000 in
set_option maxHeartbeats 1600000 in
theorem fits_any (l : List RV) (a : Option Addr) (c : Nat) (w : World) (hl : l.length ≤ reachN) (hT : Tabs w) (hr : RV.RepL w a 0 l) :
    Calls Tryz.prog 7 #[.slice a l.length c] w (FitsPost l w) := by
  have HR := Lib.hid hr
  have HT := Lib.hid hT
  unfold reachN at hl
  clear hr hT
  unfold FitsPost
  go_enter Tryz.func7, Tryz.ntmps7
  go_wp2_with fail
  go_loopg [7] (l.length) (fun gk s7 wr => ∃ i : Nat, s7 = .int .i64 i ∧ i ≤ l.length ∧ gk = l.length - i ∧ Hid (Below w.heap.size w wr ∧ ∀ (j : Nat) (_ : j < i) (h : j < l.length), l[j].Good ∧ l[j].nodes ≤ 400 ∧ l[j].bytes ≤ 2000))
  case atStart => exact ⟨0, rfl, Nat.zero_le _, rfl, Lib.hid ⟨Below.refl _ _, fun j hj => absurd hj (Nat.not_lt_zero _)⟩⟩
  case round =>
    obtain ⟨i, rfl, hi, rfl, HS⟩ := hrel
    by_cases hlt : i < l.length
    · obtain ⟨ab, ao, x0, x1, x2, x3, x4, x5, rfl, g0, g1, g2, g3, g4, g5, hra⟩ := (HR.out.below HS.out.1).get i hlt
      simp only [Nat.zero_add] at g0 g1 g2 g3 g4 g5
      obtain ⟨k, h, t, al, m, cl, ak, mk, ck, av, mv, cv, rfl, rfl, rfl, rfl, rfl, rfl⟩ := hra.shape
      have HRA := Lib.hid hra
      have hj1 : (i : Int) < (l.length : Int) := by omega
      have HF := Lib.hid (fun wx (hb : Below wr.heap.size wr wx) => fit_any l[i] _ wx ((HT.out.below HS.out.1).below hb) (HRA.out.below hb))
      clear hi hra
      go_wp2_with fail
      refine (HF.out _ ((Below.refl _ _).alloc (Nat.le_refl _) _)).mono ?_
      rintro e w1 ⟨b, rfl, hb1, hq⟩
      have HQ := Lib.hid hq
      have HB1 := Lib.hid (HS.out.1.trans ((((Below.refl wr.heap.size wr).alloc (Nat.le_refl _) _).trans (hb1.mono (by simp))).mono HS.out.1.size))
      clear hq hb1
      cases b
      · go_wp2_with fail
        go_ret
        exact ⟨false, rfl, HB1.out, fun e => by cases e⟩
      · go_wp2_with fail
        go_roundg (l.length - (i + 1))
        case measure => omega
        case rel => exact ⟨i + 1, by go_num, by omega, rfl, Lib.hid ⟨HB1.out, fun j hj hjl => by
          rcases Nat.lt_or_ge j i with h | h
          · exact HS.out.2 j h hjl
          · have : j = i := by omega
            subst this
            exact HQ.out (by simp)⟩⟩
    · go_wp2_with fail
      go_ret
      exact ⟨true, rfl, HS.out.1, fun _ j hj => HS.out.2 j (by omega) hj⟩
end Go.Proofs.YtjpcdbopioblaaaGreatDoor

/- Rows of the reference's values that a call makes of values that were there: plain laws. -/
namespace Go.Proofs.YtjpcdbopioblaaaGreatDoor
open Go.RowKit

/-- A row of the call's own: the first i values of l, each of which lay in the world w already. -/
structure RowW (w : World) (lo : Nat) (l : List RV) (i : Nat) (sl : Value) (wr : World) : Prop where
  row : ∃ xs : List Value, wr.ownsRow lo 27 6 sl i xs ∧ ∀ (j : Nat) (_ : j < i) (h : j < l.length), ∃ c0 c1 c2 c3 c4 c5, (xs.drop (j * 6)).take 6 = [c0, c1, c2, c3, c4, c5] ∧ l[j].Rep w (.agg #[c0, c1, c2, c3, c4, c5])
  below : Below w.heap.size w wr
  lo : w.heap.size ≤ lo

theorem RowW.nil {w wr : World} {lo : Nat} {l : List RV} (hb : Below w.heap.size w wr) (hlo : w.heap.size ≤ lo) : RowW w lo l 0 (.slice none 0 0) wr :=
  ⟨⟨[], World.ownsRow_nil _ _ _ _, fun j hj => absurd hj (Nat.not_lt_zero _)⟩, hb, hlo⟩
theorem RowW.shape {w wr : World} {lo i : Nat} {l : List RV} {sl : Value} (h : RowW w lo l i sl wr) : ∃ a c, sl = .slice a i c := by
  obtain ⟨xs, h1, _⟩ := h.row
  rcases h1.2 with ⟨rfl, rfl⟩ | ⟨g, cap, cur, rfl, _⟩
  · exact ⟨_, _, rfl⟩
  · exact ⟨_, _, rfl⟩
theorem RowW.push {w wr w' : World} {lo i : Nat} {l : List RV} {sl sl' c0 c1 c2 c3 c4 c5 : Value} {xs : List Value} (h : RowW w lo l i sl wr) (hi : i < l.length) (hxl : xs.length = i * 6)
    (hx : ∀ (j : Nat) (_ : j < i) (h : j < l.length), ∃ c0 c1 c2 c3 c4 c5, (xs.drop (j * 6)).take 6 = [c0, c1, c2, c3, c4, c5] ∧ l[j].Rep w (.agg #[c0, c1, c2, c3, c4, c5]))
    (hr : l[i].Rep w (.agg #[c0, c1, c2, c3, c4, c5])) (hown : w'.ownsRow lo 27 6 sl' (i + 1) (xs ++ [c0, c1, c2, c3, c4, c5])) (hb : Below w.heap.size w w') : RowW w lo l (i + 1) sl' w' := by
  refine ⟨⟨_, hown, fun j hj hjl => ?_⟩, hb, h.lo⟩
  rcases Nat.lt_or_ge j i with hji | hji
  · rw [List.drop_append_of_le_length (by omega), List.take_append_of_le_length (by simp; omega)]
    exact hx j hji hjl
  · have : j = i := by omega
    subst this
    rw [List.drop_append, List.drop_eq_nil_of_le (by omega), hxl, Nat.sub_self]
    exact ⟨c0, c1, c2, c3, c4, c5, by simp, hr⟩
theorem RowW.repL {w wr : World} {lo : Nat} {l : List RV} {sl : Value} (h : RowW w lo l l.length sl wr) : ∃ a c, sl = .slice a l.length c ∧ ∀ wx, Below wr.heap.size wr wx → RV.RepL wx a 0 l := by
  obtain ⟨xs, hown, hel⟩ := h.row
  have hlen := hown.1
  have hcell := fun g => hown.cells (g := g)
  rcases hown.2 with ⟨rfl, h0⟩ | ⟨g, cap, cur, rfl, hb, hg, hn, _, _, _⟩
  · have : l = [] := List.eq_nil_of_length_eq_zero h0
    subst this
    exact ⟨none, 0, rfl, fun _ _ => by unfold RV.RepL; trivial⟩
  · refine ⟨_, cap, rfl, fun wx hx => RV.RepL.of l 0 fun j hj => ?_⟩
    obtain ⟨c0, c1, c2, c3, c4, c5, e, hr⟩ := hel j hj hj
    have hglt := (Array.getElem?_eq_some_iff.1 hg).1
    have get : ∀ (k : Nat) (c : Value), ([c0, c1, c2, c3, c4, c5] : List Value)[k]? = some c → wx.cell? ⟨g, 0 + (0 + j) * 6 + k, none⟩ = some c := by
      intro k c hk
      have hk6 : k < 6 := by
        rcases Nat.lt_or_ge k 6 with h | h
        · exact h
        · rw [List.getElem?_eq_none (by simpa using h)] at hk; cases hk
      have h1 : xs[j * 6 + k]? = some c := by
        rw [← e, List.getElem?_take, if_pos hk6, List.getElem?_drop] at hk
        exact hk
      have h2 := hcell g rfl (j * 6 + k) c h1
      have e2 : (⟨g, 0, none⟩ : Addr).add (j * 6 + k) = ⟨g, 0 + (0 + j) * 6 + k, none⟩ := by unfold Addr.add; split <;> simp_all
      rw [e2] at h2
      exact (World.cell?_of_block (hx.block g hglt)).trans h2
    exact ⟨c0, c1, c2, c3, c4, c5, get 0 _ rfl, get 1 _ rfl, get 2 _ rfl, get 3 _ rfl, get 4 _ rfl, get 5 _ rfl, hr.below (h.below.trans (hx.mono h.below.size))⟩
theorem RowW.repL2 {w wr : World} {lo : Nat} {l : List RV} {sl : Value} (h : RowW w lo l l.length sl wr) : ∃ a c, sl = .slice a l.length c ∧ ∀ wx, Below w.heap.size w wx → SameFrom lo wr wx → RV.RepL wx a 0 l := by
  obtain ⟨xs, hown, hel⟩ := h.row
  have hlen := hown.1
  have hcell := fun g => hown.cells (g := g)
  rcases hown.2 with ⟨rfl, h0⟩ | ⟨g, cap, cur, rfl, hb, hg, hn, _, _, _⟩
  · have : l = [] := List.eq_nil_of_length_eq_zero h0
    subst this
    exact ⟨none, 0, rfl, fun _ _ _ => by unfold RV.RepL; trivial⟩
  · refine ⟨_, cap, rfl, fun wx hbw hx => RV.RepL.of l 0 fun j hj => ?_⟩
    obtain ⟨c0, c1, c2, c3, c4, c5, e, hr⟩ := hel j hj hj
    have hglt := (Array.getElem?_eq_some_iff.1 hg).1
    have get : ∀ (k : Nat) (c : Value), ([c0, c1, c2, c3, c4, c5] : List Value)[k]? = some c → wx.cell? ⟨g, 0 + (0 + j) * 6 + k, none⟩ = some c := by
      intro k c hk
      have hk6 : k < 6 := by
        rcases Nat.lt_or_ge k 6 with h | h
        · exact h
        · rw [List.getElem?_eq_none (by simpa using h)] at hk; cases hk
      have h1 : xs[j * 6 + k]? = some c := by
        rw [← e, List.getElem?_take, if_pos hk6, List.getElem?_drop] at hk
        exact hk
      have h2 := hcell g rfl (j * 6 + k) c h1
      have e2 : (⟨g, 0, none⟩ : Addr).add (j * 6 + k) = ⟨g, 0 + (0 + j) * 6 + k, none⟩ := by unfold Addr.add; split <;> simp_all
      rw [e2] at h2
      exact (World.cell?_of_block (hx g hb hglt)).trans h2
    exact ⟨c0, c1, c2, c3, c4, c5, get 0 _ rfl, get 1 _ rfl, get 2 _ rfl, get 3 _ rfl, get 4 _ rfl, get 5 _ rfl, hr.below hbw⟩
end Go.Proofs.YtjpcdbopioblaaaGreatDoor

/- Rows of the reference's values, one appended to the other. No walk. -/
namespace Go.Proofs.YtjpcdbopioblaaaGreatDoor
open Go.RowKit

/-- Appending to a row of the call's own, of whatever length the other row is. -/
theorem append_src_row {P : Program} (w : World) (base : Nat) (t ty e : TypeId) (i : TypeInfo) (z : Value) (size bytes : Nat) (ht : P.underlying t = some (.slice e)) (hi : P.info? e = some i) (hz : i.zero = some z)
    (hsize : i.size = size) (hby : i.bytes = bytes) (hzs : z.cells.size = size) (hsz : 0 < size)
    (g cap n : Nat) (xs : List Value) (hown : w.ownsRow base e size (.slice (some ⟨g, 0, none⟩) n cap) n xs)
    (a : Option Addr) (m c : Nat) (news : List Value) (hl : news.length = m * size) (ha : 0 < m → ∃ ad, a = some ad ∧ ∀ j u, news[j]? = some u → w.cell? (ad.add j) = some u) (h1 : ∀ u ∈ news, u.oneCell' = true)
    (h63 : n + m ≤ maxLen) (hbytes : (n + m) * bytes ≤ 140737488355328) (hbase : base ≤ w.heap.size) (h0 : a = none → c = 0 ∨ m = 0) :
    ∃ g' cap' w', (Builtin.append_ #[t, t] ty #[.slice (some ⟨g, 0, none⟩) n cap, .slice a m c]).run P w = .ok (.slice (some ⟨g', 0, none⟩) (n + m) cap') w' ∧ w'.ownsRow base e size (.slice (some ⟨g', 0, none⟩) (n + m) cap') (n + m) (xs ++ news) ∧ w.grownBy w' (some g) := by
  rcases Nat.eq_zero_or_pos m with rfl | hm
  · have hn0 : news = [] := List.eq_nil_of_length_eq_zero (by rw [hl, Nat.zero_mul])
    subst hn0
    have hcap : n ≤ cap := by
      rcases hown.2 with ⟨e, _⟩ | ⟨g1, cap1, cur, e, _, _, hn, _⟩
      · cases e
      · injection e with _ _ e; subst e; exact hn
    have hsrc : Src P i.size t (.slice a 0 c) 0 [] w := by
      rcases a with _ | ad
      · exact Src.ofNil w ht c
      · exact Src.ofSlice w ht ad 0 c [] (by simp) (fun j u h => by simp at h) (fun u h => by cases h)
    refine ⟨g, cap, w, ?_, by simpa using hown, World.grownBy.refl _ _⟩
    exact run_append_room_src w t t ty e i ht hi g 0 n cap _ 0 [] hsrc (by omega) (fun j hj => by simp at hj) (fun j hj => by simp at hj)
  · obtain ⟨ad, rfl, hnews⟩ := ha hm
    obtain ⟨v', w', hr, h2, h3, h4⟩ := append_where (P := P) w base t ty e i z size bytes ht hi hz hsize hby hzs hsz _ n xs hown ad m c news hl hnews h1 hm h63 hbytes hbase
    obtain ⟨g', cap', rfl, _⟩ := h2.form (by omega)
    exact ⟨g', cap', w', hr, h2, h3⟩

/-- The cells of a list that lies in memory. -/
theorem RV.RepL.cellsOf {w : World} {b o : Nat} : ∀ (l : List RV) (i : Nat), RV.RepL w (some ⟨b, o, none⟩) i l → ∃ news : List Value, news.length = l.length * 6 ∧ (∀ j u, news[j]? = some u → w.cell? ⟨b, o + i * 6 + j, none⟩ = some u) ∧ (∀ u ∈ news, u.oneCell' = true) ∧
      ∀ (j : Nat) (h : j < l.length), ∃ c0 c1 c2 c3 c4 c5, (news.drop (j * 6)).take 6 = [c0, c1, c2, c3, c4, c5] ∧ l[j].Rep w (.agg #[c0, c1, c2, c3, c4, c5])
  | [], _, _ => ⟨[], by simp, by simp, by simp, by simp⟩
  | x :: xs, i, h => by
    unfold RV.RepL at h
    obtain ⟨⟨b', o', c0, c1, c2, c3, c4, c5, e, k0, k1, k2, k3, k4, k5, hr⟩, h2⟩ := h
    injection e with e
    injection e with e1 e2
    subst e1 e2
    obtain ⟨news, n1, n2, n3, n4⟩ := RV.RepL.cellsOf xs (i + 1) h2
    have hsh := hr.shape
    refine ⟨[c0, c1, c2, c3, c4, c5] ++ news, by simp [n1]; omega, fun j u hu => ?_, fun u hu => ?_, fun j hj => ?_⟩
    · rcases Nat.lt_or_ge j 6 with hj | hj
      · rw [List.getElem?_append_left (by simpa using hj)] at hu
        match j, hj, hu with
        | 0, _, hu => simp at hu; subst hu; simpa using k0
        | 1, _, hu => simp at hu; subst hu; exact k1
        | 2, _, hu => simp at hu; subst hu; exact k2
        | 3, _, hu => simp at hu; subst hu; exact k3
        | 4, _, hu => simp at hu; subst hu; exact k4
        | 5, _, hu => simp at hu; subst hu; exact k5
      · rw [List.getElem?_append_right (by simpa using hj)] at hu
        have := n2 (j - 6) u (by simpa using hu)
        rw [show o + i * 6 + j = o + (i + 1) * 6 + (j - 6) by omega]
        exact this
    · rcases List.mem_append.1 hu with h | h
      · obtain ⟨_, _, _, _, _, _, _, _, _, _, _, _, rfl, rfl, rfl, rfl, rfl, rfl⟩ := hsh
        simp at h
        rcases h with rfl | rfl | rfl | rfl | rfl | rfl <;> rfl
      · exact n3 u h
    · match j, hj with
      | 0, _ => exact ⟨c0, c1, c2, c3, c4, c5, by simp, by simpa using hr⟩
      | j + 1, hj =>
        obtain ⟨d0, d1, d2, d3, d4, d5, e, hd⟩ := n4 j (by simpa using hj)
        refine ⟨d0, d1, d2, d3, d4, d5, ?_, by simpa using hd⟩
        rw [← e, show (j + 1) * 6 = j * 6 + 6 by omega]
        rfl

theorem RowW.many {w wr w' : World} {lo : Nat} {out l : List RV} {sl sl' : Value} {xs news : List Value} (h : RowW w lo out out.length sl wr) (hxl : xs.length = out.length * 6)
    (hx : ∀ (j : Nat) (_ : j < out.length) (h : j < out.length), ∃ c0 c1 c2 c3 c4 c5, (xs.drop (j * 6)).take 6 = [c0, c1, c2, c3, c4, c5] ∧ out[j].Rep w (.agg #[c0, c1, c2, c3, c4, c5]))
    (_ : news.length = l.length * 6) (hn : ∀ (j : Nat) (h : j < l.length), ∃ c0 c1 c2 c3 c4 c5, (news.drop (j * 6)).take 6 = [c0, c1, c2, c3, c4, c5] ∧ l[j].Rep w (.agg #[c0, c1, c2, c3, c4, c5]))
    (hown : w'.ownsRow lo 27 6 sl' (out.length + l.length) (xs ++ news)) (hb : Below w.heap.size w w') : RowW w lo (out ++ l) (out ++ l).length sl' w' := by
  refine ⟨⟨_, by rw [List.length_append]; exact hown, fun j hj hjl => ?_⟩, hb, h.lo⟩
  rcases Nat.lt_or_ge j out.length with hji | hji
  · rw [List.drop_append_of_le_length (by omega), List.take_append_of_le_length (by simp; omega), List.getElem_append_left hji]
    exact hx j hji hji
  · rw [List.length_append] at hjl
    rw [List.drop_append, List.drop_eq_nil_of_le (by omega), hxl, List.nil_append, List.getElem_append_right hji, show j * 6 - out.length * 6 = (j - out.length) * 6 by omega]
    exact hn (j - out.length) (by omega)

def JoinPost (l : List RV) (w : World) (e : Ending) (w' : World) : Prop := ∃ a c, e = .returned (.slice a l.length c) ∧ (∀ wx, Below w'.heap.size w' wx → RV.RepL wx a 0 l) ∧ Below w.heap.size w w'

/-- The two appends of joined, plainly. -/
theorem joined_runs2 (l l' : List RV) (a b : Option Addr) (ca cb : Nat) (w : World) (hl : l.length ≤ 100000) (hl' : l'.length ≤ 100000) (h1 : RV.RepL w a 0 l) (h2 : RV.RepL w b 0 l') :
    ∃ g1 c1 w1 g2 c2 w2, (Builtin.append_ #[22, 22] 22 #[.slice (some ⟨w.heap.size, 0, none⟩) 0 0, .slice a l.length ca]).run Tryz.prog (w.alloc (.cells #[] 27)) = .ok (.slice (some ⟨g1, 0, none⟩) l.length c1) w1 ∧
      (Builtin.append_ #[22, 22] 22 #[.slice (some ⟨g1, 0, none⟩) l.length c1, .slice b l'.length cb]).run Tryz.prog w1 = .ok (.slice (some ⟨g2, 0, none⟩) (l.length + l'.length) c2) w2 ∧
      Below w.heap.size w w1 ∧ JoinPost (l ++ l') w (.returned (.slice (some ⟨g2, 0, none⟩) (l.length + l'.length) c2)) w2 := by
  have src : ∀ (l : List RV) (a : Option Addr), RV.RepL w a 0 l → ∃ news : List Value, news.length = l.length * 6 ∧ (0 < l.length → ∃ ad, a = some ad ∧ ∀ wx, Below w.heap.size w wx → ∀ j u, news[j]? = some u → wx.cell? (ad.add j) = some u) ∧ (∀ u ∈ news, u.oneCell' = true) ∧
      ∀ (j : Nat) (h : j < l.length), ∃ c0 c1 c2 c3 c4 c5, (news.drop (j * 6)).take 6 = [c0, c1, c2, c3, c4, c5] ∧ l[j].Rep w (.agg #[c0, c1, c2, c3, c4, c5]) := fun l a h => by
    rcases Nat.eq_zero_or_pos l.length with h0 | h0
    · obtain rfl := List.eq_nil_of_length_eq_zero h0
      exact ⟨[], by simp, fun h => absurd h (Nat.lt_irrefl _), by simp, by simp⟩
    · obtain ⟨b, o, _, _, _, _, _, _, rfl, _⟩ := h.get 0 h0
      obtain ⟨news, n1, n2, n3, n4⟩ := RV.RepL.cellsOf l 0 h
      refine ⟨news, n1, fun _ => ⟨_, rfl, fun wx hb j u hu => ?_⟩, n3, n4⟩
      have h3 := n2 j u hu
      rw [Nat.zero_mul, Nat.add_zero] at h3
      rw [add_mk]
      exact (hb.cell (p := ⟨b, _, none⟩) (cell_lt h3)).trans h3
  obtain ⟨n1, p1, p2, p3, p4⟩ := src l a h1
  obtain ⟨n2, q1, q2, q3, q4⟩ := src l' b h2
  have hrow0 := World.ownsRow_made (base := w.heap.size) (e := 27) (size := 6) w #[] 0 (Nat.le_refl _) (by decide) (by simp)
  have hb0 : Below w.heap.size w (w.alloc (.cells #[] 27)) := (Below.refl _ _).alloc (Nat.le_refl _) _
  obtain ⟨i0, hi0, hz0, hzs, hzb⟩ := info_parts Tryz.infoValue
  obtain ⟨g1, c1, w1, hr1, hown1, hg1⟩ := append_src_row (P := Tryz.prog) (w.alloc (.cells #[] 27)) w.heap.size 22 22 27 i0 (.agg #[.int .i64 0, .int .i64 0, .string ByteArray.empty, .slice none 0 0, .slice none 0 0, .slice none 0 0]) 6 104 Tryz.underlying22 hi0 hz0 hzs hzb rfl (by decide)
    w.heap.size 0 0 [] hrow0 a l.length ca n1 p1 (fun h => (p2 h).imp fun ad h => ⟨h.1, h.2 _ hb0⟩) p3 (by unfold maxLen; omega) (by omega) (by simp) (fun h => by
      rcases Nat.eq_zero_or_pos l.length with h0 | h0
      · exact .inr h0
      · obtain ⟨ad, e, _⟩ := p2 h0; rw [h] at e; cases e)
  have hb1 : Below w.heap.size w w1 := hb0.grown hg1 (by simp) (fun k e => by injection e; omega)
  obtain ⟨g2, c2, w2, hr2, hown2, hg2⟩ := append_src_row (P := Tryz.prog) w1 w.heap.size 22 22 27 i0 (.agg #[.int .i64 0, .int .i64 0, .string ByteArray.empty, .slice none 0 0, .slice none 0 0, .slice none 0 0]) 6 104 Tryz.underlying22 hi0 hz0 hzs hzb rfl (by decide)
    g1 c1 (0 + l.length) ([] ++ n1) hown1 b l'.length cb n2 q1 (fun h => (q2 h).imp fun ad h => ⟨h.1, h.2 _ hb1⟩) q3 (by unfold maxLen; omega) (by omega) hb1.size (fun h => by
      rcases Nat.eq_zero_or_pos l'.length with h0 | h0
      · exact .inr h0
      · obtain ⟨ad, e, _⟩ := q2 h0; rw [h] at e; cases e)
  have hb2 : Below w.heap.size w w2 := hb1.grown hg2 hb1.size (fun k e => by injection e with e; subst e; exact (hown1.lt g1 rfl).1)
  simp only [Nat.zero_add, List.nil_append] at hr1 hown1 hr2 hown2
  have hW1 : RowW w w.heap.size l l.length (.slice (some ⟨g1, 0, none⟩) l.length c1) w1 := ⟨⟨n1, hown1, fun j _ h => p4 j h⟩, hb1, Nat.le_refl _⟩
  have hW2 := hW1.many (l := l') p1 (fun j _ h => p4 j h) q1 q4 hown2 hb2
  obtain ⟨sa, sc, es, hrep⟩ := hW2.repL
  exact ⟨g1, c1, w1, g2, c2, w2, hr1, hr2, hb1, sa, sc, by rw [es], hrep, hb2⟩
theorem joined_runs (l l' : List RV) (a b : Option Addr) (ca cb : Nat) (w : World) (hl : l.length ≤ 100000) (hl' : l'.length ≤ 100000) (h1 : RV.RepL w a 0 l) (h2 : RV.RepL w b 0 l') :
    ∃ g1 c1 w1 g2 c2 w2, (Builtin.append_ #[22, 22] 22 #[.slice (some ⟨w.heap.size, 0, none⟩) 0 0, .slice a l.length ca]).run Tryz.prog (w.alloc (.cells #[] 27)) = .ok (.slice (some ⟨g1, 0, none⟩) l.length c1) w1 ∧
      (Builtin.append_ #[22, 22] 22 #[.slice (some ⟨g1, 0, none⟩) l.length c1, .slice b l'.length cb]).run Tryz.prog w1 = .ok (.slice (some ⟨g2, 0, none⟩) (l.length + l'.length) c2) w2 ∧
      JoinPost (l ++ l') w (.returned (.slice (some ⟨g2, 0, none⟩) (l.length + l'.length) c2)) w2 := by
  obtain ⟨g1, c1, w1, g2, c2, w2, h1', h2', _, h⟩ := joined_runs2 l l' a b ca cb w hl hl' h1 h2
  exact ⟨g1, c1, w1, g2, c2, w2, h1', h2', h⟩
/-- An append at a step of a region that draws its order, by what it gives. -/
theorem step_append_run {P : Program} {ops : Array Oper} {o : Oper} {a : Act} {K : Act → World → Prop} {Q : Exit → Act → World → Prop} {E : Prop} {w : World} (hgd : o.guard = none) (s x : Operand) (t : TypeId)
    (ho : o.op = .call { callee := .builtin .append, args := #[s, x], argTypes := #[t, t] }) (v u : Value) (hs : a.eval s = v) (hx : a.eval x = u) (v' : Value) (w' : World) (hr : (Builtin.append_ #[t, t] o.type #[v, u]).run P w = .ok v' w') (h : K (a.put o.dst v') w') :
    if Region.wanted o (yielded ops a.tmps) = true then Oper.wp P o a w K Q else E := by
  have hw : Region.wanted o (yielded ops a.tmps) = true := by simp [Region.wanted, hgd]
  rw [if_pos hw]
  unfold Oper.wp execOp
  simp only [ho, resolve, invoke, builtin, Sem.run_bind, Sem.run_pure, Result.andThen_ok, List.map_toArray, List.map_cons, List.map_nil, hs, hx, hr]
  exact h
end Go.Proofs.YtjpcdbopioblaaaGreatDoor

/- The program's own values whose blocks lie in a given set. -/
namespace Go.Proofs.YtjpcdbopioblaaaGreatDoor
open Go.RowKit

mutual
/-- The tree lies in the world as a value of the program, in blocks of the set S alone. -/
def RV.GoS (w : World) (S : Nat → Prop) (x : Value) : RV → Prop
  | .mk k h t l ks vs =>
    (k = 0 ∧ x = .nilIface) ∨ (k = 1 ∧ x = .iface 4 (.bool false)) ∨ (k = 2 ∧ x = .iface 4 (.bool true)) ∨ (k = 3 ∧ x = numG h) ∨ (k = 4 ∧ x = .iface 9 (.string t)) ∨
    (k = 5 ∧ ∃ a cap, x = .iface 87 (.slice a l.length cap) ∧ RV.GoSL w S a 0 l) ∨
    (k = 6 ∧ ∃ r n xs, x = .iface 90 (.map (some r)) ∧ S r ∧ n ≤ 1000000 ∧ w.ownsMap Tryz.prog 9 heldR r n (mapD ks xs) ∧ xs.length = ks.length ∧ RV.GoSV w S xs vs)
def RV.GoSL (w : World) (S : Nat → Prop) (a : Option Addr) (i : Nat) : List RV → Prop
  | [] => True
  | y :: ys => (∃ b o x, a = some ⟨b, o, none⟩ ∧ S b ∧ w.cell? ⟨b, o + i, none⟩ = some x ∧ RV.GoS w S x y) ∧ RV.GoSL w S a (i + 1) ys
def RV.GoSV (w : World) (S : Nat → Prop) (xs : List Value) : List RV → Prop
  | [] => xs = []
  | y :: ys => ∃ x r, xs = x :: r ∧ RV.GoS w S x y ∧ RV.GoSV w S r ys
end

/-- Blocks of the set stand as they stood, and the set may grow. -/
def SameOn (S : Nat → Prop) (w w' : World) : Prop := ∀ k, S k → k < w.heap.size → w'.heap[k]? = w.heap[k]?
theorem SameOn.cell {S : Nat → Prop} {w w' : World} (h : SameOn S w w') {b o : Nat} {v : Value} (hb : S b) (hc : w.cell? ⟨b, o, none⟩ = some v) : w'.cell? ⟨b, o, none⟩ = some v :=
  (World.cell?_of_block (h b hb (cell_lt hc))).trans hc
theorem SameOn.map {S : Nat → Prop} {w w' : World} (h : SameOn S w w') {r n : Nat} {D : DataW Value} (hb : S r) (hm : w.ownsMap Tryz.prog 9 heldR r n D) : w'.ownsMap Tryz.prog 9 heldR r n D := by
  have hlt := hm.lt
  obtain ⟨es, clock, h1, h2⟩ := hm
  exact ⟨es, clock, (h r hb hlt).trans h1, h2⟩
theorem SameOn.of_below {S : Nat → Prop} {w w' : World} (h : Below w.heap.size w w') : SameOn S w w' := fun k _ hk => h.block k hk
theorem SameOn.of_gb {S : Nat → Prop} {w w' : World} {g : Nat} (h : w.grownBy w' (some g)) (hg : ¬ S g) : SameOn S w w' := fun k hb hk => h.block k hk (fun e => by cases e; exact hg hb)
mutual
theorem RV.GoS.keep {w w' : World} {S S' : Nat → Prop} (hs : SameOn S w w') (hS : ∀ k, S k → k < w.heap.size → S' k) : ∀ {y : RV} {x : Value}, y.GoS w S x → y.GoS w' S' x
  | .mk k h t l ks vs, x, hr => by
    unfold RV.GoS at hr ⊢
    rcases hr with e | e | e | e | e | ⟨e, a, cap, hx, hl⟩ | ⟨e, r, n, xs, hx, hb, hn, hm, hxs, hv⟩
    · exact .inl e
    · exact .inr (.inl e)
    · exact .inr (.inr (.inl e))
    · exact .inr (.inr (.inr (.inl e)))
    · exact .inr (.inr (.inr (.inr (.inl e))))
    · exact .inr (.inr (.inr (.inr (.inr (.inl ⟨e, a, cap, hx, RV.GoSL.keep hs hS hl⟩)))))
    · exact .inr (.inr (.inr (.inr (.inr (.inr ⟨e, r, n, xs, hx, hS r hb hm.lt, hn, hs.map hb hm, hxs, RV.GoSV.keep hs hS hv⟩)))))
theorem RV.GoSL.keep {w w' : World} {S S' : Nat → Prop} (hs : SameOn S w w') (hS : ∀ k, S k → k < w.heap.size → S' k) : ∀ {l : List RV} {a : Option Addr} {i : Nat}, RV.GoSL w S a i l → RV.GoSL w' S' a i l
  | [], _, _, _ => by unfold RV.GoSL; trivial
  | y :: ys, a, i, hr => by
    unfold RV.GoSL at hr ⊢
    obtain ⟨⟨b, o, x, e, hb, hc, hy⟩, h2⟩ := hr
    exact ⟨⟨b, o, x, e, hS b hb (cell_lt hc), hs.cell hb hc, RV.GoS.keep hs hS hy⟩, RV.GoSL.keep hs hS h2⟩
theorem RV.GoSV.keep {w w' : World} {S S' : Nat → Prop} (hs : SameOn S w w') (hS : ∀ k, S k → k < w.heap.size → S' k) : ∀ {l : List RV} {xs : List Value}, RV.GoSV w S xs l → RV.GoSV w' S' xs l
  | [], _, hr => by unfold RV.GoSV at hr ⊢; exact hr
  | y :: ys, xs, hr => by
    unfold RV.GoSV at hr ⊢
    obtain ⟨x, r, e, hy, h2⟩ := hr
    exact ⟨x, r, e, RV.GoS.keep hs hS hy, RV.GoSV.keep hs hS h2⟩
end
mutual
theorem RV.Go.toS {w : World} {base : Nat} : ∀ {y : RV} {x : Value}, y.Go w base x → y.GoS w (fun k => base ≤ k) x
  | .mk k h t l ks vs, x, hr => by
    unfold RV.Go at hr
    unfold RV.GoS
    rcases hr with e | e | e | e | e | ⟨e, a, cap, hx, hl⟩ | ⟨e, r, n, xs, hx, hb, hn, hm, hxs, hv⟩
    · exact .inl e
    · exact .inr (.inl e)
    · exact .inr (.inr (.inl e))
    · exact .inr (.inr (.inr (.inl e)))
    · exact .inr (.inr (.inr (.inr (.inl e))))
    · exact .inr (.inr (.inr (.inr (.inr (.inl ⟨e, a, cap, hx, RV.GoL.toS hl⟩)))))
    · exact .inr (.inr (.inr (.inr (.inr (.inr ⟨e, r, n, xs, hx, hb, hn, hm, hxs, RV.GoV.toS hv⟩)))))
theorem RV.GoL.toS {w : World} {base : Nat} : ∀ {l : List RV} {a : Option Addr} {i : Nat}, RV.GoL w base a i l → RV.GoSL w (fun k => base ≤ k) a i l
  | [], _, _, _ => by unfold RV.GoSL; trivial
  | y :: ys, a, i, hr => by
    unfold RV.GoL at hr
    unfold RV.GoSL
    obtain ⟨⟨b, o, x, e, hb, hc, hy⟩, h2⟩ := hr
    exact ⟨⟨b, o, x, e, hb, hc, RV.Go.toS hy⟩, RV.GoL.toS h2⟩
theorem RV.GoV.toS {w : World} {base : Nat} : ∀ {l : List RV} {xs : List Value}, RV.GoV w base xs l → RV.GoSV w (fun k => base ≤ k) xs l
  | [], _, hr => by unfold RV.GoV at hr; unfold RV.GoSV; exact hr
  | y :: ys, xs, hr => by
    unfold RV.GoV at hr
    unfold RV.GoSV
    obtain ⟨x, r, e, hy, h2⟩ := hr
    exact ⟨x, r, e, RV.Go.toS hy, RV.GoV.toS h2⟩
end
mutual
theorem RV.GoS.toGo {w : World} : ∀ {y : RV} {x : Value} {S : Nat → Prop}, y.GoS w S x → y.Go w 0 x
  | .mk k h t l ks vs, x, S, hr => by
    unfold RV.GoS at hr
    unfold RV.Go
    rcases hr with e | e | e | e | e | ⟨e, a, cap, hx, hl⟩ | ⟨e, r, n, xs, hx, hb, hn, hm, hxs, hv⟩
    · exact .inl e
    · exact .inr (.inl e)
    · exact .inr (.inr (.inl e))
    · exact .inr (.inr (.inr (.inl e)))
    · exact .inr (.inr (.inr (.inr (.inl e))))
    · exact .inr (.inr (.inr (.inr (.inr (.inl ⟨e, a, cap, hx, RV.GoSL.toGo hl⟩)))))
    · exact .inr (.inr (.inr (.inr (.inr (.inr ⟨e, r, n, xs, hx, Nat.zero_le _, hn, hm, hxs, RV.GoSV.toGo hv⟩)))))
theorem RV.GoSL.toGo {w : World} : ∀ {l : List RV} {a : Option Addr} {i : Nat} {S : Nat → Prop}, RV.GoSL w S a i l → RV.GoL w 0 a i l
  | [], _, _, _, _ => by unfold RV.GoL; trivial
  | y :: ys, a, i, S, hr => by
    unfold RV.GoSL at hr
    unfold RV.GoL
    obtain ⟨⟨b, o, x, e, hb, hc, hy⟩, h2⟩ := hr
    exact ⟨⟨b, o, x, e, Nat.zero_le _, hc, RV.GoS.toGo hy⟩, RV.GoSL.toGo h2⟩
theorem RV.GoSV.toGo {w : World} : ∀ {l : List RV} {xs : List Value} {S : Nat → Prop}, RV.GoSV w S xs l → RV.GoV w 0 xs l
  | [], _, _, hr => by unfold RV.GoSV at hr; unfold RV.GoV; exact hr
  | y :: ys, xs, S, hr => by
    unfold RV.GoSV at hr
    unfold RV.GoV
    obtain ⟨x, r, e, hy, h2⟩ := hr
    exact ⟨x, r, e, RV.GoS.toGo hy, RV.GoSV.toGo h2⟩
end
theorem RV.GoSV.get {w : World} {S : Nat → Prop} : ∀ {l : List RV} {xs : List Value}, RV.GoSV w S xs l → ∀ (j : Nat) (h : j < l.length) (h' : j < xs.length), l[j].GoS w S xs[j]
  | _ :: _, _, hr, 0, _, _ => by
    unfold RV.GoSV at hr
    obtain ⟨x, r, rfl, hg, _⟩ := hr
    simpa using hg
  | _ :: ys, _, hr, j + 1, h, h' => by
    unfold RV.GoSV at hr
    obtain ⟨x, r, rfl, _, h2⟩ := hr
    simpa using RV.GoSV.get h2 j (by simpa using h) (by simpa using h')
theorem RV.GoSV.of {w : World} {S : Nat → Prop} : ∀ (l : List RV) (xs : List Value), xs.length = l.length → (∀ (j : Nat) (h : j < l.length) (h' : j < xs.length), l[j].GoS w S xs[j]) → RV.GoSV w S xs l
  | [], [], _, _ => by unfold RV.GoSV; rfl
  | y :: ys, x :: r, hl, h => by
    unfold RV.GoSV
    exact ⟨x, r, rfl, h 0 (by simp) (by simp), RV.GoSV.of ys r (by simpa using hl) fun j hj hj' => h (j + 1) (by simpa using hj) (by simpa using hj')⟩
theorem RV.GoS.shape {w : World} {S : Nat → Prop} {x : Value} {y : RV} (hr : y.GoS w S x) : x = .nilIface ∨ ∃ t z, x = .iface t z := hr.toGo.shape
end Go.Proofs.YtjpcdbopioblaaaGreatDoor

/- encodeArray walked, for whatever writer. -/
namespace Go.Proofs.YtjpcdbopioblaaaGreatDoor
open Go.RowKit

/-- What encode does for a tree of at most n values. -/
def EncIH (K : Wr) (n : Nat) : Prop := ∀ (x : RV) (v : Value) (B b eb : Nat) (l0 : List UInt8) (w : World), x.nodes ≤ n → x.Good → x.GoS w (fun k => k < B) v → EncS K B b eb l0 w → (∀ W, Below B w W → Tabs W) → l0.length + 40 * (x.nodes + x.bytes) ≤ 140737488355000 →
  Calls Tryz.prog 77 #[.pointer (some ⟨eb, 0, none⟩), v] w (EncPost K B b eb (l0 ++ x.txt) w)
theorem same_lt {B : Nat} {w w' : World} (h : Below B w w') : SameOn (fun k => k < B) w w' := fun k hk _ => h.block k hk
theorem RV.GoSL.get {w : World} {S : Nat → Prop} {a : Option Addr} : ∀ {l : List RV} {i : Nat}, RV.GoSL w S a i l → ∀ (j : Nat) (h : j < l.length), ∃ b o x, a = some ⟨b, o, none⟩ ∧ w.cell? ⟨b, o + (i + j), none⟩ = some x ∧ RV.GoS w S x l[j]
  | [], _, _, j, h => absurd h (by simp)
  | y :: ys, i, hr, j, h => by
    unfold RV.GoSL at hr
    obtain ⟨⟨b, o, x, e, hb, hc, hy⟩, h2⟩ := hr
    cases j with
    | zero => exact ⟨b, o, x, e, hc, hy⟩
    | succ j =>
      obtain ⟨b', o', x', e', hc', hy'⟩ := RV.GoSL.get h2 j (by simpa using h)
      exact ⟨b', o', x', e', by rw [show i + (j + 1) = i + 1 + j by omega]; exact hc', hy'⟩
theorem nodesL_take_le (l : List RV) (i : Nat) : RV.nodesL (l.take i) ≤ RV.nodesL l ∧ RV.bytesL (l.take i) ≤ RV.bytesL l := by
  induction l generalizing i with
  | nil => simp
  | cons x l ih =>
    cases i with
    | zero => simp [RV.nodesL, RV.bytesL]
    | succ i =>
      have := ih i
      simp only [List.take_succ_cons, RV.nodesL, RV.bytesL]
      omega
theorem goodL_take {l : List RV} (h : RV.GoodL l) (i : Nat) : RV.GoodL (l.take i) := by
  induction l generalizing i with
  | nil => simpa using h
  | cons x l ih =>
    cases i with
    | zero => unfold RV.GoodL; trivial
    | succ i =>
      unfold RV.GoodL at h
      simp only [List.take_succ_cons]
      unfold RV.GoodL
      exact ⟨h.1, ih h.2 i⟩
theorem enc_bound {l : List RV} {i : Nat} (h : i < l.length) (hg : RV.GoodL l) : (RV.txtC (l.take i)).length + 40 * (l[i].nodes + l[i].bytes) ≤ 40 * (RV.nodesL l + RV.bytesL l) := by
  have h1 := txtC_len (goodL_take hg i)
  have h2 := nodesL_take_le l (i + 1)
  rw [RV.nodesL_take_succ h, RV.bytesL_take_succ h] at h2
  omega
set_option maxRecDepth 100000 in
set_option maxHeartbeats 1600000 in
theorem encodeArray_any {K : Wr} (_ : K.Keeps) (hKb : K.Bytes) (n : Nat) (ih : EncIH K n) (l : List RV) (a : Option Addr) (cap B b eb : Nat) (l0 : List UInt8) (w : World) (hn : RV.nodesL l ≤ n) (hg : RV.GoodL l) (hr : RV.GoSL w (fun k => k < B) a 0 l) (hS : EncS K B b eb l0 w) (hT : ∀ W, Below B w W → Tabs W) (hlen : l0.length + 40 * (RV.nodesL l + RV.bytesL l) + 40 ≤ 140737488355000) :
    Calls Tryz.prog 132 #[.pointer (some ⟨eb, 0, none⟩), .slice a l.length cap] w (EncPost K B b eb (l0 ++ (91 :: (RV.txtC l).drop 1 ++ [93])) w) := by
  have HS := Lib.hid hS
  have HT := Lib.hid hT
  have HL := Lib.hid hlen
  have HIH := Lib.hid ih
  have HG := Lib.hid (And.intro hg hn)
  have HR := Lib.hid hr
  have hc0 := hS.iface
  have hl2 : l.length ≤ 140737488355000 := by have := RV.len_le l; omega
  clear hS hT hlen ih hg hn hr
  have hmb := hKb.meth
  have henb := hKb.enter
  unfold EncPost
  go_enter Tryz.func132, Tryz.ntmps132
  go_wp2_with fail
  refine (hKb.write B b l0 91 _ HS.out.bld (by have := HL.out; omega) HS.out.size).mono ?_
  rintro e w1 ⟨rfl, hw1⟩
  have H1 := Lib.hid (show EncS K B b eb (l0 ++ 91 :: (RV.txtC (l.take 0)).drop 1) w1 ∧ Below B w w1 ∧ EKept b eb w w1 from ⟨by simpa [RV.txtC] using HS.out.wrote hw1, hw1.2.1, EKept.of_others hw1.2.2⟩)
  clear hw1 hc0
  go_wp2_with fail
  go_loopg [13] l.length (fun gk s13 wr => ∃ i : Nat, s13 = .int .i64 i ∧ i ≤ l.length ∧ gk = l.length - i ∧ Hid (EncS K B b eb (l0 ++ 91 :: (RV.txtC (l.take i)).drop 1) wr ∧ Below B w wr ∧ EKept b eb w wr))
  case atStart => exact ⟨0, rfl, Nat.zero_le _, rfl, H1⟩
  case round =>
    obtain ⟨i, rfl, hi, rfl, HE⟩ := hrel
    by_cases hlt : i < l.length
    · obtain ⟨ab, ao, v, rfl, hcv, hgv⟩ := (HR.out.keep (same_lt HE.out.2.1) (fun _ h _ => h)).get i hlt
      have HV := Lib.hid hgv
      simp only [Nat.zero_add] at hcv
      have hci := HE.out.1.iface
      have hj : (i : Int) < (l.length : Int) := by omega
      have HB := Lib.hid (enc_bound (l := l) (i := i) hlt HG.out.1)
      have HTX := Lib.hid (txtC_take (l := l) hlt)
      clear hgv hi
      by_cases h0 : i = 0
      · subst h0
        rw [Nat.add_zero] at hcv
        go_wp2_with fail
        refine (HIH.out l[0] v B b eb _ wr (Nat.le_trans (RV.nodes_le hlt) HG.out.2) (HG.out.1.get 0 hlt) HV.out HE.out.1 (fun W h => HT.out W (HE.out.2.1.trans h)) (by have h1 := HL.out; have h2 := HB.out; simp [RV.txtC] at h2 ⊢; omega)).mono ?_
        rintro e w3 ⟨rfl, he3, hb3, hk3⟩
        have HE3 := Lib.hid (show EncS K B b eb (l0 ++ 91 :: (RV.txtC (l.take (0 + 1))).drop 1) w3 ∧ Below B w w3 ∧ EKept b eb w w3 from ⟨by rw [HTX.out]; simpa using he3, HE.out.2.1.trans hb3, HE.out.2.2.trans hk3⟩)
        clear he3 hb3 hk3 hcv hci
        go_wp2_with fail
        go_roundg (l.length - (0 + 1))
        case measure => omega
        case rel => exact ⟨0 + 1, by go_num, by omega, rfl, HE3⟩
      · have hp : (0 : Int) < (i : Int) := by omega
        go_wp2_with fail
        refine (hKb.write B b _ 44 _ HE.out.1.bld (by have h1 := HL.out; have h2 := HB.out; simp; omega) HE.out.1.size).mono ?_
        rintro e w2 ⟨rfl, hw2⟩
        have HW2 := Lib.hid hw2
        clear hw2 hci
        go_wp2_with fail
        refine (HIH.out l[i] v B b eb _ w2 (Nat.le_trans (RV.nodes_le hlt) HG.out.2) (HG.out.1.get i hlt) (HV.out.keep (same_lt HW2.out.2.1) (fun _ h _ => h)) (HE.out.1.wrote HW2.out) (fun W h => HT.out W (HE.out.2.1.trans (HW2.out.2.1.trans h))) (by have h1 := HL.out; have h2 := HB.out; simp; omega)).mono ?_
        rintro e w3 ⟨rfl, he3, hb3, hk3⟩
        have HE3 := Lib.hid (show EncS K B b eb (l0 ++ 91 :: (RV.txtC (l.take (i + 1))).drop 1) w3 ∧ Below B w w3 ∧ EKept b eb w w3 from ⟨by rw [HTX.out, if_neg h0]; simpa using he3, HE.out.2.1.trans (HW2.out.2.1.trans hb3), HE.out.2.2.trans ((EKept.of_others HW2.out.2.2).trans hk3)⟩)
        clear he3 hb3 hk3 hcv
        go_wp2_with fail
        go_roundg (l.length - (i + 1))
        case measure => omega
        case rel => exact ⟨i + 1, by go_num, by omega, rfl, HE3⟩
    · obtain rfl : i = l.length := by omega
      have hci := HE.out.1.iface
      have HB := Lib.hid (txtC_len HG.out.1)
      clear hi hlt
      go_wp2_with fail
      refine (hKb.write B b _ 93 _ HE.out.1.bld (by have h1 := HL.out; have h2 := HB.out; simp; omega) HE.out.1.size).mono ?_
      rintro e w3 ⟨rfl, hw3⟩
      have HW3 := Lib.hid hw3
      clear hw3 hci
      go_wp2_with fail
      go_end0
      refine ⟨rfl, ?_, HE.out.2.1.trans HW3.out.2.1, HE.out.2.2.trans (EKept.of_others HW3.out.2.2)⟩
      have h3 := HE.out.1.wrote HW3.out
      rw [List.take_length] at h3
      simpa using h3
end Go.Proofs.YtjpcdbopioblaaaGreatDoor

/- spec.JSON walked: the JSON text of a tree, or silence. -/
namespace Go.Proofs.YtjpcdbopioblaaaGreatDoor
open Go.RowKit

def JsonIH (n : Nat) : Prop := ∀ (x : RV) (v : Value) (w : World), x.nodes ≤ n → x.Good → x.nodes ≤ 400 → x.bytes ≤ 2000 → x.Rep w v → Calls Tryz.prog 51 #[v] w (Told 1 x.txt w)
theorem one_below {w : World} (o : Obj) : Below w.heap.size w (w.alloc o) := (Below.refl w.heap.size w).alloc (Nat.le_refl _) o

set_option maxRecDepth 100000 in
set_option maxHeartbeats 800000 in
theorem json_word (k : Int) (h : Int) (t : ByteArray) (s3 s4 s5 : Value) (h3 : ∃ a n c, s3 = .slice a n c) (h4 : ∃ a n c, s4 = .slice a n c) (h5 : ∃ a n c, s5 = .slice a n c) (w : World) (hk : k = 0 ∨ k = 1 ∨ k = 2) :
    Calls Tryz.prog 51 #[.agg #[.int .i64 k, .int .i64 h, .string t, s3, s4, s5]] w (Told 1 (if k = 0 then [110, 117, 108, 108] else if k = 1 then [102, 97, 108, 115, 101] else [116, 114, 117, 101]) w) := by
  have HB := Lib.hid (fun o => one_below (w := w) o)
  unfold Told
  obtain ⟨a3, n3, c3, rfl⟩ := h3
  obtain ⟨a4, n4, c4, rfl⟩ := h4
  obtain ⟨a5, n5, c5, rfl⟩ := h5
  rcases hk with rfl | rfl | rfl
  all_goals
    go_enter Tryz.func51, Tryz.ntmps51
    go_wp2_with fail
    go_ret2
    exact ⟨_, _, rfl, .inl ⟨rfl, rfl⟩, HB.out _⟩
set_option maxRecDepth 100000 in
set_option maxHeartbeats 800000 in
theorem json_num (h : Int) (t : ByteArray) (a3 a4 a5 : Option Addr) (n3 n4 n5 c3 c4 c5 : Nat) (w : World) (h1 : -18014398509481984 ≤ h) (h2 : h ≤ 18014398509481984) :
    Calls Tryz.prog 51 #[.agg #[.int .i64 3, .int .i64 h, .string t, .slice a3 n3 c3, .slice a4 n4 c4, .slice a5 n5 c5]] w (Told 1 (numT h) w) := by
  have HB := Lib.hid (fun o => one_below (w := w) o)
  have HF := Lib.hid (fun wx => figures_any h wx h1 h2)
  clear h1 h2
  unfold Told at HF ⊢
  go_enter Tryz.func51, Tryz.ntmps51
  go_wp2_with fail
  refine (HF.out _).mono ?_
  rintro e w1 ⟨t', how, rfl, hh, hb⟩
  have HT := Lib.hid (And.intro hh ((HB.out _).trans (hb.mono (HB.out _).size)))
  clear hh hb
  go_wp2_with fail
  go_ret2
  exact ⟨_, _, rfl, HT.out.1, HT.out.2⟩
set_option maxRecDepth 100000 in
set_option maxHeartbeats 800000 in
theorem json_text (h : Int) (t : ByteArray) (a3 a4 a5 : Option Addr) (n3 n4 n5 c3 c4 c5 : Nat) (w : World) (ht : t.size ≤ 1000000) :
    Calls Tryz.prog 51 #[.agg #[.int .i64 4, .int .i64 h, .string t, .slice a3 n3 c3, .slice a4 n4 c4, .slice a5 n5 c5]] w (Told 1 (strT t) w) := by
  have HB := Lib.hid (fun o => one_below (w := w) o)
  have HF := Lib.hid (fun wx => quoted_any t wx ht)
  clear ht
  unfold Told at HF ⊢
  go_enter Tryz.func51, Tryz.ntmps51
  go_wp2_with fail
  refine (HF.out _).mono ?_
  rintro e w1 ⟨t', how, rfl, hh, hb⟩
  have HT := Lib.hid (And.intro hh ((HB.out _).trans (hb.mono (HB.out _).size)))
  clear hh hb
  go_wp2_with fail
  go_ret2
  exact ⟨_, _, rfl, HT.out.1.imp id (fun h => ⟨h.1, Nat.le_trans h.2 (by decide)⟩), HT.out.2⟩
theorem bytes_le_L {l : List RV} {j : Nat} (h : j < l.length) : l[j].bytes ≤ RV.bytesL l := by
  induction l generalizing j with
  | nil => simp at h
  | cons x xs ih =>
    cases j with
    | zero => simp [RV.bytesL]
    | succ j => simp only [List.getElem_cons_succ, RV.bytesL]; have := ih (j := j) (by simpa using h); omega
theorem list_text_size {l : List RV} (hg : RV.GoodL l) (hn : RV.nodesL l ≤ 400) (hb : RV.bytesL l ≤ 2000) (i : Nat) : (⟨((RV.txtC (l.take i)).drop 1).toArray⟩ : ByteArray).size ≤ 100000 := by
  have h1 := txtC_len (goodL_take hg i)
  have h2 := nodesL_take_le l i
  show (List.toArray _).size ≤ _
  rw [List.size_toArray, List.length_drop]
  omega
set_option maxRecDepth 100000 in
set_option maxHeartbeats 3200000 in
theorem json_list (n : Nat) (ih : JsonIH n) (h : Int) (t : ByteArray) (l : List RV) (a3 a4 a5 : Option Addr) (c3 c4 c5 : Nat) (w : World) (hn : RV.nodesL l ≤ n) (hn4 : RV.nodesL l ≤ 400) (hb4 : RV.bytesL l ≤ 2000) (hg : RV.GoodL l) (hr : RV.RepL w a3 0 l) :
    Calls Tryz.prog 51 #[.agg #[.int .i64 5, .int .i64 h, .string t, .slice a3 l.length c3, .slice a4 0 c4, .slice a5 0 c5]] w (Told 1 (91 :: (RV.txtC l).drop 1 ++ [93]) w) := by
  have HB := Lib.hid (fun o => one_below (w := w) o)
  have HG := Lib.hid (And.intro hg (And.intro hn (And.intro hn4 hb4)))
  have HIH := Lib.hid ih
  have HR := Lib.hid hr
  have hlen : l.length ≤ 400 := Nat.le_trans (RV.len_le l) hn4
  clear ih hg hn hn4 hb4 hr
  unfold Told
  go_enter Tryz.func51, Tryz.ntmps51
  go_wp2_with fail
  have hW0 : Below w.heap.size w (World.drew (w.alloc (.cells #[.int .i64 5, .int .i64 h, .string t, .slice a3 l.length c3, .slice a4 0 c4, .slice a5 0 c5] 27))) := (HB.out _).drew
  obtain ⟨g1, k1, w1, g2, k2, w2, hr1, hr2, hb1, he⟩ := joined_runs2 l [] a3 a5 c3 c5 _ (by omega) (by decide) (RV.RepL.below hW0 HR.out) (by unfold RV.RepL; trivial)
  rw [show (World.drew (w.alloc (.cells #[.int .i64 5, .int .i64 h, .string t, .slice a3 l.length c3, .slice a4 0 c4, .slice a5 0 c5] 27))).heap.size = w.heap.size + 1 by simp [World.drew]] at hr1
  simp only [List.length_nil, Nat.add_zero, List.append_nil] at hr2 he
  obtain ⟨ra, rc, re, hrep, hb2⟩ := he
  simp only [Ending.returned.injEq, Value.slice.injEq, true_and] at re
  obtain ⟨rfl, rfl⟩ := re
  have HR1 := Lib.hid hr1
  have HR2 := Lib.hid hr2
  have HREP := Lib.hid hrep
  have HBB := Lib.hid ((hW0).trans (hb2.mono hW0.size))
  obtain ⟨hc1, -⟩ := bcell hb1
  obtain ⟨hc2, -⟩ := bcell hb2
  have hS1 : w1.cell? ⟨w.heap.size, 3, none⟩ = some (.slice a3 l.length c3) ∧ w1.cell? ⟨w.heap.size, 5, none⟩ = some (.slice a5 0 c5) := ⟨by rw [hc1 _ _ (by simp [World.drew])]; simp, by rw [hc1 _ _ (by simp [World.drew])]; simp⟩
  have hS2 : w2.cell? ⟨w.heap.size, 3, none⟩ = some (.slice a3 l.length c3) ∧ w2.cell? ⟨w.heap.size, 5, none⟩ = some (.slice a5 0 c5) := ⟨by rw [hc2 _ _ (by simp [World.drew])]; simp, by rw [hc2 _ _ (by simp [World.drew])]; simp⟩
  have HC0 : Hid (∀ wx, Below w2.heap.size w2 wx → wx.cell? ⟨w.heap.size, 0, none⟩ = some (.int .i64 5)) := Lib.hid fun wx hx => by
    have h1 : w2.cell? ⟨w.heap.size, 0, none⟩ = some (.int .i64 5) := by rw [hc2 _ _ (by simp [World.drew])]; simp
    exact (hx.cell (p := ⟨w.heap.size, 0, none⟩) (cell_lt h1)).trans h1
  clear hr1 hr2 hrep hb1 hb2 hc1 hc2 hW0
  go_region_held3 (fun W => W.cell? ⟨w.heap.size, 3, none⟩ = some (.slice a3 l.length c3) ∧ W.cell? ⟨w.heap.size, 5, none⟩ = some (.slice a5 0 c5)) (first | assumption | (constructor <;> simp)) (first
    | (refine step_append_run rfl (.tmp 64) (.tmp 66) 22 rfl (.slice (some ⟨w.heap.size + 1, 0, none⟩) 0 0) (.slice a3 l.length c3) rfl rfl _ _ HR1.out ?_)
    | (refine step_append_run rfl (.tmp 67) (.tmp 69) 22 rfl (.slice (some ⟨g1, 0, none⟩) l.length k1) (.slice a5 0 c5) rfl rfl _ _ HR2.out ?_))
  clear hS1 hS2
  go_wp2_with fail
  go_loopg [4, 72] l.length (fun gk s4 s72 wr => ∃ i : Nat, s4 = .string ⟨((RV.txtC (l.take i)).drop 1).toArray⟩ ∧ s72 = .int .i64 i ∧ i ≤ l.length ∧ gk = l.length - i ∧ Hid (Below w2.heap.size w2 wr))
  case atStart => exact ⟨0, by simp [RV.txtC], rfl, Nat.zero_le _, rfl, Lib.hid (Below.refl _ _)⟩
  case round =>
    obtain ⟨i, rfl, rfl, hi, rfl, HK⟩ := hrel
    have hcb := HC0.out wr HK.out
    have hcb2 := fun o => HC0.out (wr.alloc o) (HK.out.trans ((one_below (w := wr) o).mono HK.out.size))
    have hts := list_text_size HG.out.1 HG.out.2.2.1 HG.out.2.2.2 i
    by_cases hlt : i < l.length
    · have hj : (i : Int) < (l.length : Int) := by omega
      obtain ⟨vb, vo, d0, d1, d2, d3, d4, d5, eab, e0, e1, e2, e3, e4, e5, hrz⟩ := (HREP.out wr HK.out).get i hlt
      simp only [Option.some.injEq, Addr.mk.injEq, and_true] at eab
      obtain ⟨rfl, rfl⟩ := eab
      simp only [Nat.zero_add] at e0 e1 e2 e3 e4 e5
      have HZ := Lib.hid (fun o => RV.Rep.below (one_below (w := wr) o) hrz)
      obtain ⟨zk, zh, zt, zal, znl, zcl, zak, znk, zck, zav, znv, zcv, rfl, rfl, rfl, rfl, rfl, rfl⟩ := hrz.shape
      have HX := Lib.hid (And.intro (HG.out.1.get i hlt) (And.intro (Nat.le_trans (RV.nodes_le hlt) HG.out.2.1) (And.intro (Nat.le_trans (RV.nodes_le hlt) HG.out.2.2.1) (Nat.le_trans (bytes_le_L hlt) HG.out.2.2.2))))
      have HTX := Lib.hid (txtC_take (l := l) hlt)
      have hzs := txt_len HX.out.1
      have hzs2 : l[i].txt.length ≤ 100000 := by have := HX.out.2.2.1; have := HX.out.2.2.2; omega
      generalize hot : (⟨((RV.txtC (l.take i)).drop 1).toArray⟩ : ByteArray) = ot at *
      have HOT := Lib.hid hot
      have hosz := hts
      clear hrz hi hzs hot hts
      by_cases h0 : i = 0
      · have hi0 : ¬ (0 : Int) < (i : Int) := by omega
        have HTB := Lib.hid (show (⟨((RV.txtC (l.take (i + 1))).drop 1).toArray⟩ : ByteArray) = ot ++ ⟨l[i].txt.toArray⟩ from by rw [HTX.out, ← HOT.out, if_pos h0]; exact ByteArray.ext (by simp))
        have hcc : ¬ 9223372036854775807 < ot.size + (⟨l[i].txt.toArray⟩ : ByteArray).size := by
          have : (⟨l[i].txt.toArray⟩ : ByteArray).size = l[i].txt.length := by show (List.toArray _).size = _; simp
          omega
        clear h0 HTX hzs2
        go_wp2_with fail
        refine (HIH.out l[i] _ _ HX.out.2.1 HX.out.1 HX.out.2.2.1 HX.out.2.2.2 (HZ.out _)).mono ?_
        rintro e w4 ⟨t', how, rfl, hh, hb⟩
        have HB4 := Lib.hid (HK.out.trans (((one_below (w := wr) _).trans (hb.mono (one_below (w := wr) _).size)).mono HK.out.size))
        clear hb
        rcases hh with ⟨rfl, rfl⟩ | ⟨rfl, hsz⟩
        · go_wp2_with fail
          go_roundg (l.length - (i + 1))
          case measure => omega
          case rel => exact ⟨i + 1, by rw [HTB.out], by go_num, by omega, rfl, HB4⟩
        · go_wp2_with fail
          go_ret2
          exact ⟨_, _, rfl, .inr ⟨rfl, by decide⟩, HBB.out.trans (HB4.out.mono HBB.out.size)⟩
      · have hi0 : (0 : Int) < (i : Int) := by omega
        have HTB := Lib.hid (show (⟨((RV.txtC (l.take (i + 1))).drop 1).toArray⟩ : ByteArray) = ot ++ ⟨#[44]⟩ ++ ⟨l[i].txt.toArray⟩ from by rw [HTX.out, ← HOT.out, if_neg h0]; exact ByteArray.ext (by simp))
        have hc1 : (⟨#[44]⟩ : ByteArray).size = 1 := rfl
        have hcc1 : ¬ 9223372036854775807 < ot.size + (⟨#[44]⟩ : ByteArray).size := by omega
        have hcc : ¬ 9223372036854775807 < (ot ++ (⟨#[44]⟩ : ByteArray)).size + (⟨l[i].txt.toArray⟩ : ByteArray).size := by
          have : (⟨l[i].txt.toArray⟩ : ByteArray).size = l[i].txt.length := by show (List.toArray _).size = _; simp
          rw [ByteArray.size_append]
          omega
        clear h0 HTX hzs2 hc1
        go_wp2_with fail
        refine (HIH.out l[i] _ _ HX.out.2.1 HX.out.1 HX.out.2.2.1 HX.out.2.2.2 (HZ.out _)).mono ?_
        rintro e w4 ⟨t', how, rfl, hh, hb⟩
        have HB4 := Lib.hid (HK.out.trans (((one_below (w := wr) _).trans (hb.mono (one_below (w := wr) _).size)).mono HK.out.size))
        clear hb
        rcases hh with ⟨rfl, rfl⟩ | ⟨rfl, hsz⟩
        · go_wp2_with fail
          go_roundg (l.length - (i + 1))
          case measure => omega
          case rel => exact ⟨i + 1, by rw [HTB.out], by go_num, by omega, rfl, HB4⟩
        · go_wp2_with fail
          go_ret2
          exact ⟨_, _, rfl, .inr ⟨rfl, by decide⟩, HBB.out.trans (HB4.out.mono HBB.out.size)⟩
    · obtain rfl : i = l.length := by omega
      have hcc1 : ¬ 9223372036854775807 < (⟨#[91]⟩ : ByteArray).size + (⟨((RV.txtC (l.take l.length)).drop 1).toArray⟩ : ByteArray).size := by
        have : (⟨#[91]⟩ : ByteArray).size = 1 := rfl
        omega
      have hcc2 : ¬ 9223372036854775807 < ((⟨#[91]⟩ : ByteArray) ++ (⟨((RV.txtC (l.take l.length)).drop 1).toArray⟩ : ByteArray)).size + (⟨#[93]⟩ : ByteArray).size := by
        have h1 : (⟨#[91]⟩ : ByteArray).size = 1 := rfl
        have h2 : (⟨#[93]⟩ : ByteArray).size = 1 := rfl
        rw [ByteArray.size_append]
        omega
      have HTB := Lib.hid (show (⟨#[91]⟩ : ByteArray) ++ ⟨((RV.txtC (l.take l.length)).drop 1).toArray⟩ ++ ⟨#[93]⟩ = ⟨(91 :: (RV.txtC l).drop 1 ++ [93]).toArray⟩ from by rw [List.take_length]; exact ByteArray.ext (by simp))
      generalize (⟨((RV.txtC (l.take l.length)).drop 1).toArray⟩ : ByteArray) = ot at *
      clear hts hi
      go_wp2_with fail
      go_ret2
      exact ⟨_, _, rfl, .inl ⟨rfl, HTB.out⟩, HBB.out.trans (HK.out.mono HBB.out.size)⟩
end Go.Proofs.YtjpcdbopioblaaaGreatDoor

/- The members' texts, one more at a time: plain. -/
namespace Go.Proofs.YtjpcdbopioblaaaGreatDoor
open Go.RowKit

theorem txtM_append : ∀ (a : List RV) (ks : List ByteArray) (c : List RV), RV.txtM ks (a ++ c) = RV.txtM ks a ++ RV.txtM (ks.drop a.length) c
  | [], ks, c => by simp [RV.txtM]
  | x :: a, ks, c => by
    simp only [List.cons_append, RV.txtM, List.length_cons]
    rw [txtM_append a ks.tail c]
    simp
theorem txtM_ne {ks : List ByteArray} {l : List RV} (h : l ≠ []) : RV.txtM ks l ≠ [] := by cases l with | nil => exact absurd rfl h | cons x l => simp [RV.txtM]
/-- One member more. -/
theorem txtM_take {ks : List ByteArray} {l : List RV} {i : Nat} (h : i < l.length) (hk : i < ks.length) : (RV.txtM ks (l.take (i + 1))).drop 1 = (RV.txtM ks (l.take i)).drop 1 ++ (if i = 0 then [] else [44]) ++ (strT ks[i] ++ (58 :: l[i].txt)) := by
  rw [List.take_succ_eq_append_getElem h, txtM_append, List.length_take, Nat.min_eq_left (by omega)]
  have e : RV.txtM (ks.drop i) [l[i]] = 44 :: (strT ks[i] ++ (58 :: l[i].txt)) := by
    rw [List.drop_eq_getElem_cons hk]
    simp only [RV.txtM, List.headD_cons, List.cons_append, List.append_nil]
  rw [e]
  by_cases h0 : i = 0
  · subst h0
    simp [RV.txtM]
  · have hne : RV.txtM ks (l.take i) ≠ [] := txtM_ne (by intro h1; have := congrArg List.length h1; rw [List.length_take, List.length_nil] at this; omega)
    cases hc : RV.txtM ks (l.take i) with
    | nil => exact absurd hc hne
    | cons c r => simp [h0]
theorem txtM_cutK : ∀ (i : Nat) (ks : List ByteArray) (l : List RV), RV.txtM ks (l.take i) = RV.txtM (ks.take i) (l.take i)
  | 0, ks, l => by simp [RV.txtM]
  | i + 1, ks, [] => by simp [RV.txtM]
  | i + 1, [], x :: l => by simp
  | i + 1, k :: ks, x :: l => by
    simp only [List.take_succ_cons, RV.txtM, List.headD_cons, List.tail_cons]
    rw [txtM_cutK i ks l]
theorem keysSize_take_le : ∀ (ks : List ByteArray) (i : Nat), keysSize (ks.take i) ≤ keysSize ks
  | [], i => by simp
  | k :: ks, 0 => by simp [keysSize]
  | k :: ks, i + 1 => by
    have := keysSize_take_le ks i
    simp only [List.take_succ_cons, keysSize]
    omega
theorem obj_bound {ks : List ByteArray} {l : List RV} {i : Nat} (h : i < l.length) (hk : ks.length = l.length) (hg : RV.GoodL l) : (RV.txtM ks (l.take i)).length + 40 * (ks[i]'(by omega)).size + 40 * (l[i].nodes + l[i].bytes) ≤ 40 * (RV.nodesL l + RV.bytesL l + keysSize ks) := by
  have h1 := txtM_len (ks := ks.take i) (vs := l.take i) (by rw [List.length_take, List.length_take, hk]) (goodL_take hg i)
  rw [← txtM_cutK] at h1
  have h2 := nodesL_take_le l (i + 1)
  rw [RV.nodesL_take_succ h, RV.bytesL_take_succ h] at h2
  have h3 := keysSize_take_le ks (i + 1)
  rw [keysSize_take_succ (by omega)] at h3
  omega
end Go.Proofs.YtjpcdbopioblaaaGreatDoor
