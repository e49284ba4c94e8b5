/- impl.Merge walked. -/
import Derived.Test.YtjpcdbopioblaaaDoorDeepMerge2
import Derived.Test.YtjpcdbopioblaaaDoorSpecGet
namespace Go.Proofs.YtjpcdbopioblaaaDoor
open Go.RowKit Go.WideMaps Go.Maps

set_option maxRecDepth 100000 in
theorem zzMerge_any (a b : RV) (ra rb : Nat) (S : Nat → Prop) (w : World) (hga : a.Good) (hgb : b.Good) (hka : a.kd = 6) (hkb : b.kd = 6) (hn : a.nodes + b.nodes ≤ 800) (ha : a.GoS w S (.iface 94 (.map (some ra)))) (hb : b.GoS w S (.iface 94 (.map (some rb)))) :
    Calls Tryd.prog 51 #[.map (some ra), .map (some rb)] w fun e w' => ∃ c x, e = .returned x ∧ MergeN 800 a b c ∧ c.Go w' 0 x ∧ Below w.heap.size w w' := by
  have HD := Lib.hid (deepMerge_all 800 (by decide) a b ra rb S w hga hgb hka hkb hn ha hb)
  clear hga hgb hka hkb hn ha hb
  go_enter Tryd.func51, Tryd.ntmps51
  go_wp2_with fail
  refine HD.out.mono ?_
  rintro e w2 ⟨c, x, rfl, hm, hk, hg, hb2⟩
  have HP := Lib.hid (And.intro hm (And.intro hg.toGo hb2))
  have hsh := hg.shape
  clear hm hk hg hb2
  rcases hsh with rfl | ⟨t, z, rfl⟩
  all_goals
    go_wp2_with fail
    go_ret
    exact ⟨c, _, rfl, HP.out⟩
theorem go_of_map {w : World} {base r n : Nat} {a : RV} {xs : List Value} (hk : a.kd = 6) (hr : base ≤ r) (hn : n ≤ 1000000) (hm : w.ownsMap Tryd.prog 9 heldR r n (mapD a.keys xs)) (hl : xs.length = a.keys.length) (hv : RV.GoV w base xs a.vals) : a.Go w base (.iface 94 (.map (some r))) := by
  obtain ⟨k, h, t, l, ks, vs⟩ := a
  unfold RV.Go
  exact .inr (.inr (.inr (.inr (.inr (.inr ⟨hk, r, n, xs, rfl, hr, hn, hm, hl, hv⟩)))))
theorem mapToGo_tree (a : RV) (v : Value) (w : World) (hg : a.Good) (hk : a.kd = 6) (hn : a.nodes ≤ 400) (hr : a.Rep w v) : Calls Tryd.prog 50 #[v] w fun e w' => ∃ r, e = .returned (.tuple #[.map (some r), .bool true]) ∧ a.Go w' 0 (.iface 94 (.map (some r))) ∧ Below w.heap.size w w' := by
  obtain ⟨k, h, t, l, ks, vs⟩ := a
  obtain ⟨h1, h2, h3, h4⟩ := hg.keys
  have h5 := (RV.mk k h t l ks vs).nodes_map
  have h6 := RV.len_le vs
  exact (mapToGo_any 800 (fun x v w h1 h2 h3 => toGo_big 800 (by decide) x v w h1 h2 h3) k h t l ks vs v w (by show RV.nodesL vs ≤ 800; have : 1 + RV.nodesL vs ≤ _ := h5; omega) h3 h1 h2 hr (by have : ks.length = vs.length := h2; have : 1 + RV.nodesL vs ≤ _ := h5; omega)).mono fun e w' ⟨r, n, xs, he, g1, g2, g3, g4, g5, g6⟩ => ⟨r, he, (go_of_map hk g1 g2 g3 g4 g5).mono (Nat.zero_le _), g6⟩
def MergePostI (a b : RV) (w : World) (e : Ending) (w' : World) : Prop := ∃ c, MergeN 800 a b c ∧ ResPost c w e w'

set_option maxRecDepth 100000 in
set_option maxHeartbeats 3200000 in
theorem implMerge_any (a b : RV) (va vb : Value) (w : World) (hga : a.Good) (hgb : b.Good) (hka : a.kd = 6) (hkb : b.kd = 6) (hna : a.nodes ≤ 400) (hnb : b.nodes ≤ 400) (hza : a.bytes ≤ 50000) (hzb : b.bytes ≤ 50000) (hra : a.Rep w va) (hrb : b.Rep w vb) :
    Calls Tryd.prog 26 #[va, vb] w (MergePostI a b w) := by
  have HT1 := Lib.hid (fun wx (hbw : Below w.heap.size w wx) => mapToGo_tree a va wx hga hka hna (hra.below hbw))
  have HT2 := Lib.hid (fun wx (hbw : Below w.heap.size w wx) => mapToGo_tree b vb wx hgb hkb hnb (hrb.below hbw))
  have HZ := Lib.hid (fun ra rb wx h1 h2 => zzMerge_any a b ra rb (fun _ => True) wx hga hgb hka hkb (by omega) h1 h2)
  have HR := Lib.hid (fun c x wx (hm : MergeN 800 a b c) (hx : c.Go wx 0 x) => result_all c x wx 0 (hm.right hga hgb).1 ⟨by have := (hm.right hga hgb).2.1; omega, by have := (hm.right hga hgb).2.2; omega⟩ hx)
  have HB := Lib.hid (fun o o' o'' => (((Below.refl w.heap.size w).alloc (Nat.le_refl _) o).alloc (by simp) o').alloc (by simp; omega) o'')
  obtain ⟨k, h, t, l, ks, vs⟩ := a
  obtain ⟨k2, h2, t2, l2, ks2, vs2⟩ := b
  have ek : k = 6 := hka
  have ek2 : k2 = 6 := hkb
  subst ek ek2
  unfold RV.Rep at hra hrb
  obtain ⟨al, cl, ak, ck, av, cv, rfl, -⟩ := hra
  obtain ⟨al2, cl2, ak2, ck2, av2, cv2, rfl, -⟩ := hrb
  clear hga hgb hka hkb hna hnb hza hzb
  generalize RV.mk 6 h t l ks vs = A at *
  generalize RV.mk 6 h2 t2 l2 ks2 vs2 = B at *
  unfold MergePostI ResPost
  go_enter Tryd.func26, Tryd.ntmps26
  go_wp2_with fail
  refine (HT1.out _ (HB.out _ _ _)).mono ?_
  rintro e w1 ⟨r1, rfl, hx1, hb1⟩
  have HX1 := Lib.hid hx1
  have HB1 := Lib.hid ((HB.out _ _ _).trans (hb1.mono (by simp; omega)))
  obtain ⟨hc1', hf1'⟩ := bcell hb1
  have hz1 := hb1.size
  simp at hz1
  have hy1 : w.heap.size + 2 < w1.heap.size := by omega
  have hc0 := fun o => hc1' w.heap.size o (by first | (simp; done) | (simp; omega))
  have hc1 := fun o => hc1' (w.heap.size + 1) o (by first | (simp; done) | (simp; omega))
  have hc2 := fun o => hc1' (w.heap.size + 2) o (by first | (simp; done) | (simp; omega))
  have hf2 := fun o => hf1' (w.heap.size + 2) o (by first | (simp; done) | (simp; omega))
  clear hc1' hf1' hz1 hb1 hx1
  go_wp2_with fail
  refine (HT2.out _ HB1.out).mono ?_
  rintro e w2 ⟨r2, rfl, hx2, hb2⟩
  have HX2 := Lib.hid (And.intro (RV.Go.same (SameFrom.of_below hb2 0) HX1.out) hx2)
  have HB2 := Lib.hid (HB1.out.trans (hb2.mono HB1.out.size))
  obtain ⟨hd', hg'⟩ := bcell hb2
  have hd0 := fun o => hd' w.heap.size o (by omega)
  have hd1 := fun o => hd' (w.heap.size + 1) o (by omega)
  have hd2 := fun o => hd' (w.heap.size + 2) o hy1
  have hg2 := fun o => hg' (w.heap.size + 2) o hy1
  have hy2 : w.heap.size + 2 < w2.heap.size := Nat.lt_of_lt_of_le hy1 hb2.size
  clear hd' hg' hb2 hx2
  go_wp2_with fail
  refine (HZ.out _ _ _ (HX2.out.1.toS.keep (fun _ _ _ => rfl) (fun _ _ _ => trivial)) (HX2.out.2.toS.keep (fun _ _ _ => rfl) (fun _ _ _ => trivial))).mono ?_
  rintro e w3 ⟨c, x, rfl, hm3, hx3, hb3⟩
  have HX3 := Lib.hid (And.intro hm3 hx3)
  have HB3 := Lib.hid (HB2.out.trans (hb3.mono HB2.out.size))
  obtain ⟨hd', hg'⟩ := bcell hb3
  have he2 := fun o => hd' (w.heap.size + 2) o hy2
  have hh2 := fun o => hg' (w.heap.size + 2) o hy2
  have hy3 : w.heap.size + 2 < w3.heap.size := Nat.lt_of_lt_of_le hy2 hb3.size
  have hsh := hx3.shape
  clear hd' hg' hb3 hm3 hx3
  have HRX := Lib.hid (HR.out c x w3 HX3.out.1 HX3.out.2)
  rcases hsh with rfl | ⟨tt, zz, rfl⟩
  all_goals
    go_wp2_with fail
    refine HRX.out.mono ?_
    rintro e w4 ⟨r, rfl, hr, hb4⟩
    have hsh := hr.shape
    have HRR := Lib.hid hr
    have HB4 := Lib.hid (HB3.out.trans (hb4.mono HB3.out.size))
    obtain ⟨hd', hg'⟩ := bcell hb4
    have hi2 := fun o => hd' (w.heap.size + 2) o hy3
    have hj2 := fun o => hg' (w.heap.size + 2) o hy3
    clear hd' hg' hb4 hr
    obtain ⟨rk, rh, rt, ral, rn, rcl, rak, rm, rck, rav, rq, rcv, rfl⟩ := hsh
    go_wp2_with fail
    refine bodyPost_ret (v := .agg #[.int .i64 rk, .int .i64 rh, .string rt, .slice ral rn rcl, .slice rak rm rck, .slice rav rq rcv, .int .i64 0]) (by rw [results_cell rfl]; go_simp) rfl ?_
    have hw3 := HB3.out.size
    have fin : ∀ wx, w4.grownBy wx (some (w.heap.size + 2)) → (∃ c, MergeN 800 A B c ∧ ∃ r, Ending.returned (.agg #[.int .i64 rk, .int .i64 rh, .string rt, .slice ral rn rcl, .slice rak rm rck, .slice rav rq rcv, .int .i64 0]) = Ending.returned r ∧ ResHere w.heap.size c wx r ∧ Below w.heap.size w wx) := fun wx hgb => by
      refine ⟨c, HX3.out.1, _, rfl, fun wy hx => HRR.out wy fun kk hb hk => ?_, below_gb HB4.out hgb HB4.out.size (by omega)⟩
      exact (hx kk (by omega) (Nat.lt_of_lt_of_le hk hgb.size)).trans (hgb.block kk hk (fun e => by injection e; omega))
    with_reducible refine fin _ ?_
    repeat' (with_reducible first | exact World.grownBy.refl _ _ | refine gb_alloc ?_ _ | refine gb_set ?_ _ _)
end Go.Proofs.YtjpcdbopioblaaaDoor
