/- The thin package's way back walked: mapFromGo. -/
import Derived.Test.YtjpcdbopioblaaaDoorMapRow2
import Derived.Test.YtjpcdbopioblaaaDoorKept
import Derived.Deep.AppendLies
namespace Go.Proofs.YtjpcdbopioblaaaDoor
open Go.RowKit

/-- What region 8's loads read. -/
def HeldS (O T : Nat) (slk slv c0 c1 c2 c3 c4 c5 : Value) (W : World) : Prop :=
  W.cell? ⟨O, 4, none⟩ = some slk ∧ W.cell? ⟨O, 5, none⟩ = some slv ∧ W.cell? ⟨T, 0, none⟩ = some c0 ∧ W.cell? ⟨T, 1, none⟩ = some c1 ∧ W.cell? ⟨T, 2, none⟩ = some c2 ∧ W.cell? ⟨T, 3, none⟩ = some c3 ∧ W.cell? ⟨T, 4, none⟩ = some c4 ∧ W.cell? ⟨T, 5, none⟩ = some c5
theorem HeldS.of_mid {O T lo i nk nv : Nat} {slk slv c0 c1 c2 c3 c4 c5 d0 d1 d2 d3 d4 d5 sk sv : Value} {ks : List ByteArray} {vs : List RV} {xs : List Value} {W0 W : World} (h : HeldS O T slk slv c0 c1 c2 c3 c4 c5 W0)
    (hm : Mid lo ks vs i T d0 d1 d2 d3 d4 d5 W0 W sk nk sv nv xs) (hO : O < lo) : HeldS O T slk slv c0 c1 c2 c3 c4 c5 W := by
  obtain ⟨h4, h5, t0, t1, t2, t3, t4, t5⟩ := h
  have o : ∀ j, W.cell? ⟨O, j, none⟩ = W0.cell? ⟨O, j, none⟩ := fun j => World.cell?_of_block (hm.old O hO)
  have t : ∀ j, W.cell? ⟨T, j, none⟩ = W0.cell? ⟨T, j, none⟩ := fun j => World.cell?_of_block hm.tsame
  exact ⟨(o 4).trans h4, (o 5).trans h5, (t 0).trans t0, (t 1).trans t1, (t 2).trans t2, (t 3).trans t3, (t 4).trans t4, (t 5).trans t5⟩
theorem rowK_push {ks : List ByteArray} {i : Nat} {key : ByteArray} (hi : i < ks.length) (hk : ks[i] = key) : ((ks.take i).map fun k => Value.string k) ++ [.string key] = (ks.take (i + 1)).map fun k => Value.string k := by
  rw [List.take_succ_eq_append_getElem hi, List.map_append, hk]; rfl

set_option maxRecDepth 100000 in
set_option maxHeartbeats 4000000 in
theorem mapFromGo_any (n : Nat) (ih : FromIH n) (ks : List ByteArray) (vs : List RV) (r m : Nat) (xs : List Value) (w : World) (base : Nat) (hn : RV.nodesL vs ≤ n) (hg : RV.GoodL vs) (hs : ∀ (j : Nat) (h : j < vs.length), vs[j].Sized)
    (hl : ks.length ≤ 100000) (hkv : ks.length = vs.length) (hks : ∀ k ∈ ks, k.size ≤ 100000) (hu : KeysUp ks) (hm : w.ownsMap Tryd.prog 9 heldR r m (mapD ks xs)) (hxs : xs.length = ks.length) (hv : RV.GoV w base xs vs) :
    Calls Tryd.prog 88 #[.map (some r)] w (FromPost (.mk 6 0 ByteArray.empty [] ks vs) w) := by
  have hrlt := hm.lt
  have hmB : ∀ wx, Below w.heap.size w wx → wx.ownsMap Tryd.prog 9 heldR r m (mapD ks xs) := fun wx hb => by
    obtain ⟨es, clock, h1, h2⟩ := hm
    exact ⟨es, clock, (hb.block r hrlt).trans h1, h2⟩
  have HKV := Lib.hid hkv
  clear hkv
  have HK := Lib.hid (fun (W : World) => keys_call (some r) W)
  have HS := Lib.hid (fun (W : World) (hb : Below w.heap.size w W) => sorted_call r m ks xs W (hmB W hb) hxs hu hl)
  have HB := Lib.hid (fun o o' => ((Below.refl w.heap.size w).alloc (Nat.le_refl _) o).alloc (by simp) o')
  unfold FromPost
  go_enter Tryd.func88, Tryd.ntmps88
  go_wp2_with (go_at_call 100; refine (HK.out _).mono ?_; rintro e w1 ⟨rfl, rfl⟩)
  have hsc := HS.out _ (HB.out (.cells #[.int .i64 0, .int .i64 0, .string ByteArray.empty, .slice none 0 0, .slice none 0 0, .slice none 0 0] 26) (.cells #[.int .i64 6, .int .i64 0, .string ByteArray.empty, .slice none 0 0, .slice none 0 0, .slice none 0 0] 26))
  have e2 : ((w.alloc (.cells #[.int .i64 0, .int .i64 0, .string ByteArray.empty, .slice none 0 0, .slice none 0 0, .slice none 0 0] 26)).alloc (.cells #[.int .i64 6, .int .i64 0, .string ByteArray.empty, .slice none 0 0, .slice none 0 0, .slice none 0 0] 26)).heap.size = w.heap.size + 1 + 1 := by simp
  rw [e2] at hsc
  refine hsc.mono ?_
  rintro e w2 ⟨kv, rfl, hrow, hb2⟩
  have hstart := OutM.start w ks vs kv r w2 hrow hb2
  have HST := Lib.hid hstart
  obtain ⟨va, vn, vc, rfl⟩ : ∃ a n c, kv = .slice a n c := by
    rcases hrow.2 with ⟨e, _⟩ | ⟨g, cp, cu, e, _⟩ <;> exact ⟨_, _, _, e⟩
  obtain rfl : vn = ks.length := by
    rcases hrow.2 with ⟨e, h0⟩ | ⟨g, cp, cu, e, _⟩
    · injection e with _ e _; omega
    · injection e
  clear hsc e2 hrow hb2 hstart
  go_wp2_with fail
  go_loopg [14] (ks.length) (fun gk s14 wr => ∃ (i : Nat) (slk slv : Value), s14 = .int .i64 i ∧ i ≤ ks.length ∧ gk = ks.length - i ∧ Hid (OutM w w2.heap.size (.slice va ks.length vc) ks vs i slk slv wr))
  case atStart => exact ⟨0, .slice none 0 0, .slice none 0 0, rfl, Nat.zero_le _, rfl, HST⟩
  case round =>
    obtain ⟨i, slk, slv, rfl, hi, rfl, HR⟩ := hrel
    by_cases hlt : i < ks.length
    · have hltv : i < vs.length := HKV.out ▸ hlt
      have hltx : i < xs.length := by omega
      obtain ⟨g, hva, gk⟩ : ∃ g, va = some ⟨g, 0, none⟩ ∧ wr.cell? ⟨g, i, none⟩ = some (.string ks[i]) := by
        have hcells := fun g => HR.out.keys.cells (g := g)
        rcases HR.out.keys.2 with ⟨e, h0⟩ | ⟨g, cp, cu, e, _⟩
        · omega
        · injection e with e _ _
          subst e
          have h1 := hcells g rfl i (.string ks[i]) (by simp [hlt])
          have e2 : (⟨g, 0, none⟩ : Addr).add i = ⟨g, 0 + i, none⟩ := add_mk g 0 i
          rw [e2, Nat.zero_add] at h1
          exact ⟨g, rfl, h1⟩
      subst hva
      obtain ⟨key, hkey⟩ : ∃ key, ks[i] = key := ⟨_, rfl⟩
      have hlk : (Instr.lookup 94 (.map (some r)) (.string key) false).run Tryd.prog wr = .ok xs[i] wr := by
        rw [← hkey]
        exact lookup_run wr r m ks xs (hmB wr HR.out.below) hxs hu i hlt hltx (by have := hks ks[i] (List.getElem_mem hlt); unfold maxLen; omega)
      have HGX := Lib.hid (RV.GoV.get (RV.GoV.same (SameFrom.of_below HR.out.below base) hv) i hltv hltx)
      rw [hkey] at gk
      have HKEY := Lib.hid hkey
      have hj1 : (i : Int) < (ks.length : Int) := by omega
      clear hkey hi
      have HIH := Lib.hid ih
      have HGD := Lib.hid (And.intro (hg.get i hltv) (And.intro (hs i hltv) (Nat.le_trans (RV.nodes_le hltv) hn)))
      go_wp2_with fail
      refine (HIH.out vs[i] xs[i] wr base HGD.out.2.2 HGD.out.1 HGD.out.2.1 HGX.out).mono ?_
      rintro e w1 ⟨v, rfl, hh, hb1⟩
      obtain ⟨k, h, t, al, mm, cl, ak, mk, ck, av, mv, cv, rfl⟩ : ∃ k h t al n cl ak m ck av q cv, v = .agg #[.int .i64 k, .int .i64 h, .string t, .slice al n cl, .slice ak m ck, .slice av q cv] := by
        have hr' := hh.rep
        generalize vs[i] = y at hr'
        obtain ⟨k, h, t, l, ks, vs⟩ := y
        unfold RV.Rep at hr'
        obtain ⟨al, cl, ak, ck, av, cv, e, _⟩ := hr'
        exact ⟨_, _, _, _, _, _, _, _, _, _, _, _, e⟩
      have HH := Lib.hid hh
      have HB1 := Lib.hid hb1
      clear hh hb1 HIH HGD gk hlk
      go_wp2_with fail
      have hO : w.heap.size + 1 < w2.heap.size := by have := HR.out.lo2; omega
      obtain ⟨ys, hrv, hel⟩ := HR.out.rowv
      have HMID := Lib.hid (fun (W0 : World) (h0 : Below w1.heap.size w1 W0) (h1 : w1.heap.size < W0.heap.size) => OutM.mid HR.out hltv HB1.out HH.out h0 h1 hrv hel)
      obtain ⟨ik, hik, hkz, hks2, hkb⟩ := info_parts Tryd.infoString
      obtain ⟨iv, hiv, hvz, hvs, hvb⟩ := info_parts Tryd.infoValue
      have HC4 : wr.cell? ⟨w.heap.size + 1, 4, none⟩ = some slk := HR.out.cells 4
      have HC5 : wr.cell? ⟨w.heap.size + 1, 5, none⟩ = some slv := HR.out.cells 5
      have HFR := Lib.hid HR.out.frozen
      have h0 : Below w1.heap.size w1 (World.drew (w1.alloc (.cells #[.int .i64 k, .int .i64 h, .string t, .slice al mm cl, .slice ak mk ck, .slice av mv cv] 26))) := ((Below.refl _ _).alloc (Nat.le_refl _) _).drew
      have hz0 : w1.heap.size < (World.drew (w1.alloc (.cells #[.int .i64 k, .int .i64 h, .string t, .slice al mm cl, .slice ak mk ck, .slice av mv cv] 26))).heap.size := by simp
      have hOr : w.heap.size + 1 < wr.heap.size := by have := HR.out.le; omega
      have hOw : w.heap.size + 1 < w1.heap.size := by have := HB1.out.size; omega
      have hs0 : HeldS (w.heap.size + 1) w1.heap.size slk slv (.int .i64 k) (.int .i64 h) (.string t) (.slice al mm cl) (.slice ak mk ck) (.slice av mv cv) (World.drew (w1.alloc (.cells #[.int .i64 k, .int .i64 h, .string t, .slice al mm cl, .slice ak mk ck, .slice av mv cv] 26))) :=
        ⟨((bcell h0).1 _ _ hOw).trans (((bcell HB1.out).1 _ _ hOr).trans HC4), ((bcell h0).1 _ _ hOw).trans (((bcell HB1.out).1 _ _ hOr).trans HC5), by simp, by simp, by simp, by simp, by simp, by simp⟩
      refine wp_region_kept (HeldS (w.heap.size + 1) w1.heap.size slk slv (.int .i64 k) (.int .i64 h) (.string t) (.slice al mm cl) (.slice ak mk ck) (.slice av mv cv)) 11 (by kernel_rfl) ?_
      generalize (World.drew (w1.alloc (.cells #[.int .i64 k, .int .i64 h, .string t, .slice al mm cl, .slice ak mk ck, .slice av mv cv] 26))) = W0 at h0 hz0 hs0 ⊢
      have HM0 := Lib.hid (HMID.out W0 h0 hz0)
      have HS0 := Lib.hid hs0
      have H0 := Lib.hid h0
      have HI := Lib.hid (And.intro (And.intro hik (And.intro hkz (And.intro hks2 hkb))) (And.intro hiv (And.intro hvz (And.intro hvs hvb))))
      have HLE := Lib.hid HR.out.le
      have HZ1 := Lib.hid HB1.out.size
      clear hrv hel HC4 HC5 h0 hz0 hs0 hik hkz hks2 hkb hiv hvz hvs hvb HMID
      refine wpAnyK_take (v := ?v0) 0 [11] rfl (by kernel_rfl) (by kernel_rfl) (by kernel_rfl) (by kernel_rfl) (by kernel_rfl) (by kernel_rfl) (by kernel_rfl) (fun _ _ _ h => h) (Or.inl ⟨by rfl, ?y0⟩) HS0.out ?r0
      case y0 => (intro W hS; obtain ⟨s4, s5, t0, t1, t2, t3, t4, t5⟩ := hS; go_simp; try with_reducible rfl)
      try simp only [Act.put, List.setIfInBounds_toArray, List.set_cons_zero, List.set_cons_succ]
      refine wpAnyK_take (v := ?v1) 1 [11] rfl (by kernel_rfl) (by kernel_rfl) (by kernel_rfl) (by kernel_rfl) (by kernel_rfl) (by kernel_rfl) (by kernel_rfl) (fun _ _ _ h => h) (Or.inl ⟨by rfl, ?y1⟩) HS0.out ?r1
      case y1 => (intro W hS; obtain ⟨s4, s5, t0, t1, t2, t3, t4, t5⟩ := hS; go_simp; try with_reducible rfl)
      try simp only [Act.put, List.setIfInBounds_toArray, List.set_cons_zero, List.set_cons_succ]
      refine wpAnyK_take (v := ?v2) 2 [11] rfl (by kernel_rfl) (by kernel_rfl) (by kernel_rfl) (by kernel_rfl) (by kernel_rfl) (by kernel_rfl) (by kernel_rfl) (fun _ _ _ h => h) (Or.inl ⟨by rfl, ?y2⟩) HS0.out ?r2
      case y2 => (intro W hS; obtain ⟨s4, s5, t0, t1, t2, t3, t4, t5⟩ := hS; go_simp; try with_reducible rfl)
      try simp only [Act.put, List.setIfInBounds_toArray, List.set_cons_zero, List.set_cons_succ]
      refine wpAnyK_take (v := ?v5) 5 [11] rfl (by kernel_rfl) (by kernel_rfl) (by kernel_rfl) (by kernel_rfl) (by kernel_rfl) (by kernel_rfl) (by kernel_rfl) (fun _ _ _ h => h) (Or.inl ⟨by rfl, ?y5⟩) HS0.out ?r5
      case y5 => (intro W hS; obtain ⟨s4, s5, t0, t1, t2, t3, t4, t5⟩ := hS; go_simp; try with_reducible rfl)
      try simp only [Act.put, List.setIfInBounds_toArray, List.set_cons_zero, List.set_cons_succ]
      refine wpAnyK_take (v := ?v6) 6 [11] rfl (by kernel_rfl) (by kernel_rfl) (by kernel_rfl) (by kernel_rfl) (by kernel_rfl) (by kernel_rfl) (by kernel_rfl) (fun _ _ _ h => h) (Or.inl ⟨by rfl, ?y6⟩) HS0.out ?r6
      case y6 => (intro W hS; obtain ⟨s4, s5, t0, t1, t2, t3, t4, t5⟩ := hS; go_simp; try with_reducible rfl)
      try simp only [Act.put, List.setIfInBounds_toArray, List.set_cons_zero, List.set_cons_succ]
      refine wpAnyK_take (v := ?v7) 7 [8, 9, 11] rfl (by kernel_rfl) (by kernel_rfl) (by kernel_rfl) (by kernel_rfl) (by kernel_rfl) (by kernel_rfl) (by kernel_rfl) (fun _ _ _ h => h) (Or.inl ⟨by rfl, ?y7⟩) HS0.out ?r7
      case y7 => (intro W hS; obtain ⟨s4, s5, t0, t1, t2, t3, t4, t5⟩ := hS; go_simp; try with_reducible rfl)
      try simp only [Act.put, List.setIfInBounds_toArray, List.set_cons_zero, List.set_cons_succ]
      have HBV := Lib.hid (show wr.heap.size ≤ W0.heap.size from Nat.le_trans HZ1.out H0.out.size)
      refine wpAnyK_ready (rs := [3, 8]) (by decide +kernel) (by simp) ?_
      refine (AllReadyK.cons rfl (fun K hK => ?_) (AllReadyK.cons rfl (fun K hK => ?_) AllReadyK.nil))
      · skip
        go_simp
        have HM1 := Lib.hid (HM0.out.alloc (.cells #[.string key] 9))
        have HN1 := Lib.hid (heap_alloc_new W0 (.cells #[.string key] 9))
        refine hK.out _ _ (HS0.out.of_mid HM1.out hO) ?_
        clear hK K
        try simp only [Act.put, List.setIfInBounds_toArray, List.set_cons_zero, List.set_cons_succ]
        generalize W0.alloc (.cells #[.string key] 9) = W1 at HM1 HN1 ⊢
        refine wpAnyK_ready (rs := [4, 8]) (by decide +kernel) (by simp) ?_
        refine (AllReadyK.cons rfl (fun K hK => ?_) (AllReadyK.cons rfl (fun K hK => ?_) AllReadyK.nil))
        · skip
          refine step_append_lies _ (by rfl) _ _ _ (by rfl) w2.heap.size 9 ik (.string ByteArray.empty) 1 16 Tryd.underlying24 HI.out.1.1 HI.out.1.2.1 HI.out.1.2.2.1 HI.out.1.2.2.2 (by rfl) (by decide) slk i ((ks.take i).map fun k => Value.string k) (by rfl) HM1.out.rowk ⟨W0.heap.size, 0, none⟩ 1 1 [.string key] (by rfl) (by rfl) (World.news_of_block HN1.out) (fun x hx => by simp at hx; subst hx; rfl) (by decide) (by unfold maxLen; omega) (by omega) (by have h1 := HM1.out.le; have h2 := HM1.out.size; omega) _ rfl ?_
          intro gk capk W2 hown2 hgrow2 hat2 hlt2
          have HM2 := Lib.hid (HM1.out.pushK (ck' := .slice (some ⟨gk, 0, none⟩) (i + 1) capk) hgrow2 (by unfold RowK; rw [← rowK_push hlt HKEY.out]; exact hown2) (hat2.imp (fun e => e.symm) (fun e => by rw [e]; rfl)))
          clear hown2 hgrow2 hat2 hlt2
          refine hK.out _ _ (HS0.out.of_mid HM2.out hO) ?_
          clear hK K
          try simp only [Act.put, List.setIfInBounds_toArray, List.set_cons_zero, List.set_cons_succ]
          refine wpAnyK_take (v := ?v10x2) 10 [11] rfl (by kernel_rfl) (by kernel_rfl) (by kernel_rfl) (by kernel_rfl) (by kernel_rfl) (by kernel_rfl) (by kernel_rfl) (fun _ _ _ h => h) (Or.inl ⟨by rfl, ?y10x2⟩) (HS0.out.of_mid HM2.out hO) ?r10x2
          case y10x2 => (intro W hS; clear hS; go_simp; try with_reducible rfl)
          try simp only [Act.put, List.setIfInBounds_toArray, List.set_cons_zero, List.set_cons_succ]
          refine wpAnyK_ready (rs := [8]) (by decide +kernel) (by simp) ?_
          refine (AllReadyK.cons rfl (fun K hK => ?_) AllReadyK.nil)
          go_simp
          have HM3 := Lib.hid (HM2.out.alloc (.cells #[.int .i64 k, .int .i64 h, .string t, .slice al mm cl, .slice ak mk ck, .slice av mv cv] 26))
          have HN3 := Lib.hid (heap_alloc_new W2 (.cells #[.int .i64 k, .int .i64 h, .string t, .slice al mm cl, .slice ak mk ck, .slice av mv cv] 26))
          refine hK.out _ _ (HS0.out.of_mid HM3.out hO) ?_
          clear hK K
          try simp only [Act.put, List.setIfInBounds_toArray, List.set_cons_zero, List.set_cons_succ]
          generalize W2.alloc (.cells #[.int .i64 k, .int .i64 h, .string t, .slice al mm cl, .slice ak mk ck, .slice av mv cv] 26) = W3 at HM3 HN3 ⊢
          refine wpAnyK_ready (rs := [9]) (by decide +kernel) (by simp) ?_
          refine (AllReadyK.cons rfl (fun K hK => ?_) AllReadyK.nil)
          refine step_append_lies _ (by rfl) _ _ _ (by rfl) w2.heap.size 26 iv (.agg #[.int .i64 0, .int .i64 0, .string ByteArray.empty, .slice none 0 0, .slice none 0 0, .slice none 0 0]) 6 104 Tryd.underlying23 HI.out.2.1 HI.out.2.2.1 HI.out.2.2.2.1 HI.out.2.2.2.2 (by rfl) (by decide) slv i ys (by rfl) HM3.out.rowv ⟨W2.heap.size, 0, none⟩ 1 1 [.int .i64 k, .int .i64 h, .string t, .slice al mm cl, .slice ak mk ck, .slice av mv cv] (by rfl) (by rfl) (World.news_of_block HN3.out) (fun x hx => by simp at hx; rcases hx with rfl | rfl | rfl | rfl | rfl | rfl <;> rfl) (by decide) (by unfold maxLen; omega) (by omega) (by have h1 := HM3.out.le; have h2 := HM3.out.size; omega) _ rfl ?_
          intro gv capv W4 hown4 hgrow4 hat4 hlt4
          have HM4 := Lib.hid (HM3.out.pushV (cv' := .slice (some ⟨gv, 0, none⟩) (i + 1) capv) hltv hgrow4 hown4 (hat4.imp (fun e => e.symm) (fun e => by rw [e]; rfl)))
          clear hown4 hgrow4 hat4 hlt4
          refine hK.out _ _ (HS0.out.of_mid HM4.out hO) ?_
          clear hK K
          try simp only [Act.put, List.setIfInBounds_toArray, List.set_cons_zero, List.set_cons_succ]
          have hoo : ∀ o, W4.cell? ⟨w.heap.size + 1, o, none⟩ = wr.cell? ⟨w.heap.size + 1, o, none⟩ := fun o => World.cell?_of_block ((HM4.out.old _ hO).trans ((H0.out.block _ hOw).trans (HB1.out.block _ hOr)))
          have q4 : W4.cell? ⟨w.heap.size + 1, 4, none⟩ = some slk := (hoo 4).trans (HR.out.cells 4)
          have q5 : W4.cell? ⟨w.heap.size + 1, 5, none⟩ = some slv := (hoo 5).trans (HR.out.cells 5)
          have ff : ∀ o, W4.frozen? ⟨w.heap.size + 1, o, none⟩ = false := fun o => (World.frozen?_of_block ((HM4.out.old _ hO).trans ((H0.out.block _ hOw).trans (HB1.out.block _ hOr)))).trans (HFR.out o)
          have f4 := ff 4
          have f5 := ff 5
          have HP := Lib.hid (OutM.push HR.out HB1.out H0.out HM4.out)
          clear hoo ff
          refine wpAnyK_ready (rs := [11]) (by decide +kernel) (by simp) ?_
          refine (AllReadyK.cons_k rfl rfl (fun K hK => ?_) AllReadyK.nil)
          go_simp
          refine hK.out _ _ ?_
          clear hK K
          try simp only [Act.put, List.setIfInBounds_toArray, List.set_cons_zero, List.set_cons_succ]
          refine wpAny_ready (rs := [12]) (by decide +kernel) (by simp) ?_
          refine (AllReady.cons rfl (fun K hK => ?_) AllReady.nil)
          go_simp
          refine hK _ _ ?_
          clear hK K
          try simp only [Act.put, List.setIfInBounds_toArray, List.set_cons_zero, List.set_cons_succ]
          refine wpAny_ready (rs := [13]) (by decide +kernel) (by simp) ?_
          refine (AllReady.cons rfl (fun K hK => ?_) AllReady.nil)
          go_simp
          refine hK _ _ ?_
          clear hK K
          try simp only [Act.put, List.setIfInBounds_toArray, List.set_cons_zero, List.set_cons_succ]
          refine wpAny_done (by kernel_rfl) ?_ _
          go_wp2_with fail
          go_roundg (ks.length - (i + 1))
          case measure => omega
          case rel => exact ⟨i + 1, (.slice (some ⟨gk, 0, none⟩) (i + 1) capk), (.slice (some ⟨gv, 0, none⟩) (i + 1) capv), by go_num, by omega, rfl, HP⟩
        · skip
          go_simp
          have HM5 := Lib.hid (HM1.out.alloc (.cells #[.int .i64 k, .int .i64 h, .string t, .slice al mm cl, .slice ak mk ck, .slice av mv cv] 26))
          have HN5 := Lib.hid (heap_alloc_new W1 (.cells #[.int .i64 k, .int .i64 h, .string t, .slice al mm cl, .slice ak mk ck, .slice av mv cv] 26))
          have HK5 := Lib.hid ((Below.heap_alloc W1 (.cells #[.int .i64 k, .int .i64 h, .string t, .slice al mm cl, .slice ak mk ck, .slice av mv cv] 26) _ (Array.getElem?_eq_some_iff.1 HN1.out).1).trans HN1.out)
          refine hK.out _ _ (HS0.out.of_mid HM5.out hO) ?_
          clear hK K
          try simp only [Act.put, List.setIfInBounds_toArray, List.set_cons_zero, List.set_cons_succ]
          generalize W1.alloc (.cells #[.int .i64 k, .int .i64 h, .string t, .slice al mm cl, .slice ak mk ck, .slice av mv cv] 26) = W5 at HM5 HN5 HK5 ⊢
          refine wpAnyK_ready (rs := [4]) (by decide +kernel) (by simp) ?_
          refine (AllReadyK.cons rfl (fun K hK => ?_) AllReadyK.nil)
          refine step_append_lies _ (by rfl) _ _ _ (by rfl) w2.heap.size 9 ik (.string ByteArray.empty) 1 16 Tryd.underlying24 HI.out.1.1 HI.out.1.2.1 HI.out.1.2.2.1 HI.out.1.2.2.2 (by rfl) (by decide) slk i ((ks.take i).map fun k => Value.string k) (by rfl) HM5.out.rowk ⟨W0.heap.size, 0, none⟩ 1 1 [.string key] (by rfl) (by rfl) (World.news_of_block HK5.out) (fun x hx => by simp at hx; subst hx; rfl) (by decide) (by unfold maxLen; omega) (by omega) (by have h1 := HM5.out.le; have h2 := HM5.out.size; omega) _ rfl ?_
          intro gk capk W6 hown6 hgrow6 hat6 hlt6
          have HM6 := Lib.hid (HM5.out.pushK (ck' := .slice (some ⟨gk, 0, none⟩) (i + 1) capk) hgrow6 (by unfold RowK; rw [← rowK_push hlt HKEY.out]; exact hown6) (hat6.imp (fun e => e.symm) (fun e => by rw [e]; rfl)))
          have HV6 := Lib.hid ((hgrow6.block _ (Array.getElem?_eq_some_iff.1 HN5.out).1 (fun e => by have h1 := (HM0.out.rowk.lt _ e.symm).2; have h2 := HBV.out; have h3 := HM1.out.size; omega)).trans HN5.out)
          clear hown6 hgrow6 hat6 hlt6
          refine hK.out _ _ (HS0.out.of_mid HM6.out hO) ?_
          clear hK K
          try simp only [Act.put, List.setIfInBounds_toArray, List.set_cons_zero, List.set_cons_succ]
          refine wpAnyK_take (v := ?v10x6) 10 [11] rfl (by kernel_rfl) (by kernel_rfl) (by kernel_rfl) (by kernel_rfl) (by kernel_rfl) (by kernel_rfl) (by kernel_rfl) (fun _ _ _ h => h) (Or.inl ⟨by rfl, ?y10x6⟩) (HS0.out.of_mid HM6.out hO) ?r10x6
          case y10x6 => (intro W hS; clear hS; go_simp; try with_reducible rfl)
          try simp only [Act.put, List.setIfInBounds_toArray, List.set_cons_zero, List.set_cons_succ]
          refine wpAnyK_ready (rs := [9]) (by decide +kernel) (by simp) ?_
          refine (AllReadyK.cons rfl (fun K hK => ?_) AllReadyK.nil)
          refine step_append_lies _ (by rfl) _ _ _ (by rfl) w2.heap.size 26 iv (.agg #[.int .i64 0, .int .i64 0, .string ByteArray.empty, .slice none 0 0, .slice none 0 0, .slice none 0 0]) 6 104 Tryd.underlying23 HI.out.2.1 HI.out.2.2.1 HI.out.2.2.2.1 HI.out.2.2.2.2 (by rfl) (by decide) slv i ys (by rfl) HM6.out.rowv ⟨W1.heap.size, 0, none⟩ 1 1 [.int .i64 k, .int .i64 h, .string t, .slice al mm cl, .slice ak mk ck, .slice av mv cv] (by rfl) (by rfl) (World.news_of_block HV6.out) (fun x hx => by simp at hx; rcases hx with rfl | rfl | rfl | rfl | rfl | rfl <;> rfl) (by decide) (by unfold maxLen; omega) (by omega) (by have h1 := HM6.out.le; have h2 := HM6.out.size; omega) _ rfl ?_
          intro gv capv W7 hown7 hgrow7 hat7 hlt7
          have HM7 := Lib.hid (HM6.out.pushV (cv' := .slice (some ⟨gv, 0, none⟩) (i + 1) capv) hltv hgrow7 hown7 (hat7.imp (fun e => e.symm) (fun e => by rw [e]; rfl)))
          clear hown7 hgrow7 hat7 hlt7
          refine hK.out _ _ (HS0.out.of_mid HM7.out hO) ?_
          clear hK K
          try simp only [Act.put, List.setIfInBounds_toArray, List.set_cons_zero, List.set_cons_succ]
          have hoo : ∀ o, W7.cell? ⟨w.heap.size + 1, o, none⟩ = wr.cell? ⟨w.heap.size + 1, o, none⟩ := fun o => World.cell?_of_block ((HM7.out.old _ hO).trans ((H0.out.block _ hOw).trans (HB1.out.block _ hOr)))
          have q4 : W7.cell? ⟨w.heap.size + 1, 4, none⟩ = some slk := (hoo 4).trans (HR.out.cells 4)
          have q5 : W7.cell? ⟨w.heap.size + 1, 5, none⟩ = some slv := (hoo 5).trans (HR.out.cells 5)
          have ff : ∀ o, W7.frozen? ⟨w.heap.size + 1, o, none⟩ = false := fun o => (World.frozen?_of_block ((HM7.out.old _ hO).trans ((H0.out.block _ hOw).trans (HB1.out.block _ hOr)))).trans (HFR.out o)
          have f4 := ff 4
          have f5 := ff 5
          have HP := Lib.hid (OutM.push HR.out HB1.out H0.out HM7.out)
          clear hoo ff
          refine wpAnyK_ready (rs := [11]) (by decide +kernel) (by simp) ?_
          refine (AllReadyK.cons_k rfl rfl (fun K hK => ?_) AllReadyK.nil)
          go_simp
          refine hK.out _ _ ?_
          clear hK K
          try simp only [Act.put, List.setIfInBounds_toArray, List.set_cons_zero, List.set_cons_succ]
          refine wpAny_ready (rs := [12]) (by decide +kernel) (by simp) ?_
          refine (AllReady.cons rfl (fun K hK => ?_) AllReady.nil)
          go_simp
          refine hK _ _ ?_
          clear hK K
          try simp only [Act.put, List.setIfInBounds_toArray, List.set_cons_zero, List.set_cons_succ]
          refine wpAny_ready (rs := [13]) (by decide +kernel) (by simp) ?_
          refine (AllReady.cons rfl (fun K hK => ?_) AllReady.nil)
          go_simp
          refine hK _ _ ?_
          clear hK K
          try simp only [Act.put, List.setIfInBounds_toArray, List.set_cons_zero, List.set_cons_succ]
          refine wpAny_done (by kernel_rfl) ?_ _
          go_wp2_with fail
          go_roundg (ks.length - (i + 1))
          case measure => omega
          case rel => exact ⟨i + 1, (.slice (some ⟨gk, 0, none⟩) (i + 1) capk), (.slice (some ⟨gv, 0, none⟩) (i + 1) capv), by go_num, by omega, rfl, HP⟩
      · skip
        go_simp
        have HM8 := Lib.hid (HM0.out.alloc (.cells #[.int .i64 k, .int .i64 h, .string t, .slice al mm cl, .slice ak mk ck, .slice av mv cv] 26))
        have HN8 := Lib.hid (heap_alloc_new W0 (.cells #[.int .i64 k, .int .i64 h, .string t, .slice al mm cl, .slice ak mk ck, .slice av mv cv] 26))
        refine hK.out _ _ (HS0.out.of_mid HM8.out hO) ?_
        clear hK K
        try simp only [Act.put, List.setIfInBounds_toArray, List.set_cons_zero, List.set_cons_succ]
        generalize W0.alloc (.cells #[.int .i64 k, .int .i64 h, .string t, .slice al mm cl, .slice ak mk ck, .slice av mv cv] 26) = W8 at HM8 HN8 ⊢
        refine wpAnyK_ready (rs := [3]) (by decide +kernel) (by simp) ?_
        refine (AllReadyK.cons rfl (fun K hK => ?_) AllReadyK.nil)
        go_simp
        have HM9 := Lib.hid (HM8.out.alloc (.cells #[.string key] 9))
        have HN9 := Lib.hid (heap_alloc_new W8 (.cells #[.string key] 9))
        have HV9 := Lib.hid ((Below.heap_alloc W8 (.cells #[.string key] 9) _ (Array.getElem?_eq_some_iff.1 HN8.out).1).trans HN8.out)
        refine hK.out _ _ (HS0.out.of_mid HM9.out hO) ?_
        clear hK K
        try simp only [Act.put, List.setIfInBounds_toArray, List.set_cons_zero, List.set_cons_succ]
        generalize W8.alloc (.cells #[.string key] 9) = W9 at HM9 HN9 HV9 ⊢
        refine wpAnyK_ready (rs := [4]) (by decide +kernel) (by simp) ?_
        refine (AllReadyK.cons rfl (fun K hK => ?_) AllReadyK.nil)
        refine step_append_lies _ (by rfl) _ _ _ (by rfl) w2.heap.size 9 ik (.string ByteArray.empty) 1 16 Tryd.underlying24 HI.out.1.1 HI.out.1.2.1 HI.out.1.2.2.1 HI.out.1.2.2.2 (by rfl) (by decide) slk i ((ks.take i).map fun k => Value.string k) (by rfl) HM9.out.rowk ⟨W8.heap.size, 0, none⟩ 1 1 [.string key] (by rfl) (by rfl) (World.news_of_block HN9.out) (fun x hx => by simp at hx; subst hx; rfl) (by decide) (by unfold maxLen; omega) (by omega) (by have h1 := HM9.out.le; have h2 := HM9.out.size; omega) _ rfl ?_
        intro gk capk W10 hown10 hgrow10 hat10 hlt10
        have HM10 := Lib.hid (HM9.out.pushK (ck' := .slice (some ⟨gk, 0, none⟩) (i + 1) capk) hgrow10 (by unfold RowK; rw [← rowK_push hlt HKEY.out]; exact hown10) (hat10.imp (fun e => e.symm) (fun e => by rw [e]; rfl)))
        have HV10 := Lib.hid ((hgrow10.block _ (Array.getElem?_eq_some_iff.1 HV9.out).1 (fun e => by have h1 := (HM0.out.rowk.lt _ e.symm).2; have h2 := HBV.out; have h3 := HM0.out.size; omega)).trans HV9.out)
        clear hown10 hgrow10 hat10 hlt10
        refine hK.out _ _ (HS0.out.of_mid HM10.out hO) ?_
        clear hK K
        try simp only [Act.put, List.setIfInBounds_toArray, List.set_cons_zero, List.set_cons_succ]
        refine wpAnyK_take (v := ?v10x10) 10 [11] rfl (by kernel_rfl) (by kernel_rfl) (by kernel_rfl) (by kernel_rfl) (by kernel_rfl) (by kernel_rfl) (by kernel_rfl) (fun _ _ _ h => h) (Or.inl ⟨by rfl, ?y10x10⟩) (HS0.out.of_mid HM10.out hO) ?r10x10
        case y10x10 => (intro W hS; clear hS; go_simp; try with_reducible rfl)
        try simp only [Act.put, List.setIfInBounds_toArray, List.set_cons_zero, List.set_cons_succ]
        refine wpAnyK_ready (rs := [9]) (by decide +kernel) (by simp) ?_
        refine (AllReadyK.cons rfl (fun K hK => ?_) AllReadyK.nil)
        refine step_append_lies _ (by rfl) _ _ _ (by rfl) w2.heap.size 26 iv (.agg #[.int .i64 0, .int .i64 0, .string ByteArray.empty, .slice none 0 0, .slice none 0 0, .slice none 0 0]) 6 104 Tryd.underlying23 HI.out.2.1 HI.out.2.2.1 HI.out.2.2.2.1 HI.out.2.2.2.2 (by rfl) (by decide) slv i ys (by rfl) HM10.out.rowv ⟨W0.heap.size, 0, none⟩ 1 1 [.int .i64 k, .int .i64 h, .string t, .slice al mm cl, .slice ak mk ck, .slice av mv cv] (by rfl) (by rfl) (World.news_of_block HV10.out) (fun x hx => by simp at hx; rcases hx with rfl | rfl | rfl | rfl | rfl | rfl <;> rfl) (by decide) (by unfold maxLen; omega) (by omega) (by have h1 := HM10.out.le; have h2 := HM10.out.size; omega) _ rfl ?_
        intro gv capv W11 hown11 hgrow11 hat11 hlt11
        have HM11 := Lib.hid (HM10.out.pushV (cv' := .slice (some ⟨gv, 0, none⟩) (i + 1) capv) hltv hgrow11 hown11 (hat11.imp (fun e => e.symm) (fun e => by rw [e]; rfl)))
        clear hown11 hgrow11 hat11 hlt11
        refine hK.out _ _ (HS0.out.of_mid HM11.out hO) ?_
        clear hK K
        try simp only [Act.put, List.setIfInBounds_toArray, List.set_cons_zero, List.set_cons_succ]
        have hoo : ∀ o, W11.cell? ⟨w.heap.size + 1, o, none⟩ = wr.cell? ⟨w.heap.size + 1, o, none⟩ := fun o => World.cell?_of_block ((HM11.out.old _ hO).trans ((H0.out.block _ hOw).trans (HB1.out.block _ hOr)))
        have q4 : W11.cell? ⟨w.heap.size + 1, 4, none⟩ = some slk := (hoo 4).trans (HR.out.cells 4)
        have q5 : W11.cell? ⟨w.heap.size + 1, 5, none⟩ = some slv := (hoo 5).trans (HR.out.cells 5)
        have ff : ∀ o, W11.frozen? ⟨w.heap.size + 1, o, none⟩ = false := fun o => (World.frozen?_of_block ((HM11.out.old _ hO).trans ((H0.out.block _ hOw).trans (HB1.out.block _ hOr)))).trans (HFR.out o)
        have f4 := ff 4
        have f5 := ff 5
        have HP := Lib.hid (OutM.push HR.out HB1.out H0.out HM11.out)
        clear hoo ff
        refine wpAnyK_ready (rs := [11]) (by decide +kernel) (by simp) ?_
        refine (AllReadyK.cons_k rfl rfl (fun K hK => ?_) AllReadyK.nil)
        go_simp
        refine hK.out _ _ ?_
        clear hK K
        try simp only [Act.put, List.setIfInBounds_toArray, List.set_cons_zero, List.set_cons_succ]
        refine wpAny_ready (rs := [12]) (by decide +kernel) (by simp) ?_
        refine (AllReady.cons rfl (fun K hK => ?_) AllReady.nil)
        go_simp
        refine hK _ _ ?_
        clear hK K
        try simp only [Act.put, List.setIfInBounds_toArray, List.set_cons_zero, List.set_cons_succ]
        refine wpAny_ready (rs := [13]) (by decide +kernel) (by simp) ?_
        refine (AllReady.cons rfl (fun K hK => ?_) AllReady.nil)
        go_simp
        refine hK _ _ ?_
        clear hK K
        try simp only [Act.put, List.setIfInBounds_toArray, List.set_cons_zero, List.set_cons_succ]
        refine wpAny_done (by kernel_rfl) ?_ _
        go_wp2_with fail
        go_roundg (ks.length - (i + 1))
        case measure => omega
        case rel => exact ⟨i + 1, (.slice (some ⟨gk, 0, none⟩) (i + 1) capk), (.slice (some ⟨gv, 0, none⟩) (i + 1) capv), by go_num, by omega, rfl, HP⟩
    · have hil : i = ks.length := by omega
      subst hil
      obtain ⟨ys, hrv, hel⟩ := HR.out.rowv
      obtain ⟨ka, kcap, rfl, hkf⟩ := HR.out.rowk.keysAt (fun k hk => Nat.le_trans (hks k hk) (by unfold reachN; decide))
      rw [HKV.out] at hrv
      obtain ⟨sa, scap, rfl, hvf⟩ := rows_repL hrv (fun j hj hl => hel j (by rw [HKV.out]; exact hj) hl)
      have HKF := Lib.hid hkf
      have HVF := Lib.hid hvf
      have q0 := HR.out.cells 0
      have q1 := HR.out.cells 1
      have q2 := HR.out.cells 2
      have q3 := HR.out.cells 3
      have q4 := HR.out.cells 4
      have q5 := HR.out.cells 5
      have r0 := HR.out.res 0
      have r1 := HR.out.res 1
      have r2 := HR.out.res 2
      have r3 := HR.out.res 3
      have r4 := HR.out.res 4
      have r5 := HR.out.res 5
      have rf := HR.out.rfrozen
      simp only [List.getElem?_toArray, List.getElem?_cons_zero, List.getElem?_cons_succ] at q0 q1 q2 q3 q4 q5 r0 r1 r2 r3 r4 r5
      have HLO := Lib.hid HR.out.lo2
      clear hkf hvf hi hlt hrv hel hm
      go_wp2_with fail
      refine bodyPost_ret (v := .tuple #[.agg #[.int .i64 6, .int .i64 0, .string ByteArray.empty, .slice none 0 0, .slice ka ks.length kcap, .slice sa vs.length scap], .bool true]) (by rw [results_cell_tmp rfl]; go_simp) rfl ?_
      have fin : ∀ wx, wr.grownBy wx (some w.heap.size) → (∃ v, Ending.returned (.tuple #[.agg #[.int .i64 6, .int .i64 0, .string ByteArray.empty, .slice none 0 0, .slice ka ks.length kcap, .slice sa vs.length scap], .bool true]) = Ending.returned (.tuple #[v, .bool true]) ∧ RV.Here w.heap.size wx v (.mk 6 0 ByteArray.empty [] ks vs) ∧ Below w.heap.size w wx) := fun wx hgb => by
        have hlo := HLO.out
        have hkv := HKV.out
        refine ⟨_, rfl, fun wy hx => ?_, below_gb HR.out.below hgb HR.out.below.size (Nat.le_refl _)⟩
        have hsame : SameFrom w2.heap.size wr wy := fun kk hb hk => (hx kk (by omega) (Nat.lt_of_lt_of_le hk hgb.size)).trans (hgb.block kk hk (fun e => by injection e; omega))
        unfold RV.Rep
        exact ⟨none, 0, ka, kcap, sa, scap, rfl, by unfold I64; omega, by unfold I64; omega, by decide, by simp, by unfold reachN; omega, by unfold reachN; omega, by unfold RV.RepL; trivial, HKF.out wy hsame, HVF.out wy hsame⟩
      with_reducible refine fin _ ?_
      repeat' (with_reducible first | exact World.grownBy.refl _ _ | refine gb_alloc ?_ _ | refine gb_set ?_ _ _)
end Go.Proofs.YtjpcdbopioblaaaDoor
