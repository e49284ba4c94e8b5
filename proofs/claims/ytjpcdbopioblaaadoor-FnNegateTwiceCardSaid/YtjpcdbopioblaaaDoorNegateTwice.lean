/- FnNegateTwice walked: a number negated twice is itself. -/
import Derived.Test.YtjpcdbopioblaaaDoorFromGo0
namespace Go.Proofs.YtjpcdbopioblaaaDoor
open Go.RowKit

theorem xor_top (r : Nat) (hr : r < 2 ^ 63) : r ^^^ 2 ^ 63 = 2 ^ 63 + r := by
  refine Nat.eq_of_testBit_eq fun i => ?_
  rw [Nat.testBit_xor, Nat.testBit_two_pow]
  rcases Nat.lt_trichotomy i 63 with h | h | h
  · rw [Nat.testBit_two_pow_add_gt h]
    have : decide (63 = i) = false := by simp; omega
    rw [this, Bool.xor_false]
  · subst h
    rw [Nat.testBit_two_pow_add_eq, Nat.testBit_lt_two_pow hr]
    rfl
  · have h2 : (2 : Nat) ^ 64 ≤ 2 ^ i := Nat.pow_le_pow_right (by decide) h
    rw [Nat.testBit_lt_two_pow (show r < 2 ^ i by omega), Nat.testBit_lt_two_pow (show 2 ^ 63 + r < 2 ^ i by omega)]
    have : decide (63 = i) = false := by simp; omega
    rw [this]; rfl

theorem rung_lt (m : Nat) (p : Int) (hm : 0 < m) (hm2 : m < 2 ^ 53) (hp2 : p + m.log2 ≤ 1023) : rung m p < 2 ^ 63 := by
  have hs := sig_bounds m hm hm2
  have : (p + m.log2 + 1022).toNat ≤ 2045 := by omega
  have : (p + m.log2 + 1022).toNat * 2 ^ 52 ≤ 2045 * 2 ^ 52 := Nat.mul_le_mul_right _ this
  unfold rung
  omega

theorem neg_half (h : Int) (h0 : h ≠ 0) (h1 : -9007199254740992 < h) (h2 : h < 9007199254740992) : Op.negFloat .f64 (halfF h) = halfF (-h) := by
  have hl := log2_le h.natAbs (by omega)
  unfold halfF
  rw [half_write h h0 h1 h2, half_write (-h) (by omega) (by omega) (by omega), Int.natAbs_neg]
  have hr := rung_lt h.natAbs (-1) (by omega) (by omega) (by omega)
  generalize rung h.natAbs (-1) = r at hr
  show Ieee.double.word _ r ^^^ 2 ^ 63 = _
  have sw : Ieee.double.signWeight = 2 ^ 63 := rfl
  unfold Ieee.Format.word
  rw [sw]
  by_cases hn : h < 0
  · have : ¬ (-h < 0) := by omega
    simp only [hn, this, decide_true, decide_false, if_true, Bool.false_eq_true, if_false]
    rw [← xor_top r hr, Nat.xor_assoc, Nat.xor_self, Nat.xor_zero]
  · have : -h < 0 := by omega
    simp only [hn, this, decide_true, decide_false, if_true, Bool.false_eq_true, if_false]
    exact xor_top r hr

/-- A number's tree. -/
def numT (h : Int) : RV := .mk 3 h ByteArray.empty [] [] []

set_option maxRecDepth 100000 in
set_option maxHeartbeats 800000 in
theorem negate_any (h : Int) (w : World) (hb : -18014398509481984 ≤ h ∧ h ≤ 18014398509481984) (hp : h % 2 = 0 ∨ (-9007199254740992 < h ∧ h < 9007199254740992)) :
    Calls Tryd.prog 79 #[numG h] w fun e w' => e = .returned (numG (-h)) ∧ w' = w := by
  have hdm := Int.mul_tdiv_add_tmod h 2
  unfold numG
  have hnt : (-h).tmod 2 = -(h.tmod 2) := Int.neg_tmod h 2
  have hnd : (-h).tdiv 2 = -(h.tdiv 2) := Int.neg_tdiv h 2
  by_cases hev : h.tmod 2 = 0
  · rw [if_pos hev, if_pos (by rw [hnt, hev]; rfl), hnd]
    rw [hev] at hdm
    have hq1 : -9007199254740992 ≤ h.tdiv 2 := by omega
    have hq2 : h.tdiv 2 ≤ 9007199254740992 := by omega
    generalize h.tdiv 2 = q at hq1 hq2
    clear hdm hev hnt hnd hp hb
    have hC : Calls Tryd.prog 92 #[.int .i64 q] w fun e w' => e = .returned (.iface 3 (.int .i64 (-q))) ∧ w' = w := by
      have hne : (q == -9223372036854775808) = false := by simp; omega
      go_enter Tryd.func92, Tryd.ntmps92
      go_wp2_with fail
      go_ret
      have e : IntKind.i64.wrap (-q) = -q := IntWalk.i64_in _ (by omega)
      first | exact ⟨rfl, rfl⟩ | exact ⟨by simp [e], rfl⟩
    have HC := Lib.hid hC
    clear hC
    have a_int := as_int_int
    go_enter Tryd.func79, Tryd.ntmps79
    go_wp2_with (go_at_call 92; refine HC.out.mono ?_; rintro e w3 ⟨rfl, rfl⟩)
    go_ret
    exact ⟨rfl, rfl⟩
  · have hbb := hp.resolve_left (fun e => hev (Int.tmod_eq_zero_of_dvd (Int.dvd_of_emod_eq_zero e)))
    have hn := neg_half h (by rintro rfl; exact hev rfl) hbb.1 hbb.2
    rw [if_neg hev, if_neg (by rw [hnt]; omega), ← hn]
    clear hdm hev hnt hnd hp hb hbb hn
    generalize halfF h = F
    have hneg : Op.unary .neg (.float .f64 F) = pure (.float .f64 (Op.negFloat .f64 F)) := rfl
    have a_int := as_float_int
    have a_float := as_float_float
    go_enter Tryd.func79, Tryd.ntmps79
    go_wp2_with fail
    go_ret
    exact ⟨rfl, rfl⟩

set_option maxRecDepth 100000 in
theorem zzNegate_any (h : Int) (w : World) (hb : -18014398509481984 ≤ h ∧ h ≤ 18014398509481984) (hp : h % 2 = 0 ∨ (-9007199254740992 < h ∧ h < 9007199254740992)) :
    Calls Tryd.prog 56 #[numG h] w fun e w' => e = .returned (numG (-h)) ∧ w' = w := by
  have HN := Lib.hid (fun wx => negate_any h wx hb hp)
  generalize numG h = x at HN ⊢
  generalize numG (-h) = y at HN ⊢
  go_enter Tryd.func56, Tryd.ntmps56
  go_wp2_with (go_at_call 79; refine (HN.out _).mono ?_; rintro e w3 ⟨rfl, rfl⟩)
  go_ret
  exact ⟨rfl, rfl⟩

theorem numT_good {h : Int} (hb : -18014398509481984 ≤ h ∧ h ≤ 18014398509481984) (hp : h % 2 = 0 ∨ (-9007199254740992 < h ∧ h < 9007199254740992)) : (numT h).Good := by
  unfold numT RV.Good
  exact ⟨by decide, by decide, .inl rfl, .inr rfl, .inr rfl, .inr rfl, rfl, hb.1, hb.2, hp, by decide, by unfold RV.GoodL; trivial, by simp, by intro i hi; simp at hi, by unfold RV.GoodL; trivial⟩

set_option maxRecDepth 100000 in
set_option maxHeartbeats 1600000 in
theorem implNegate_any (h : Int) (v : Value) (w : World) (hb : -18014398509481984 ≤ h ∧ h ≤ 18014398509481984) (hp : h % 2 = 0 ∨ (-9007199254740992 < h ∧ h < 9007199254740992)) (hr : (numT h).Rep w v) :
    Calls Tryd.prog 34 #[v] w (ResPost (numT (-h)) w) := by
  have hT := fun wx (hbw : Below w.heap.size w wx) => toGo_any 400 (Nat.le_refl _) (numT h) v wx (by unfold numT RV.nodes RV.nodesL; decide) (numT_good hb hp) (hr.below hbw)
  have hN := fun wx => zzNegate_any h wx hb hp
  have hgo : ∀ wx, (numT (-h)).Go wx 0 (numG (-h)) := fun wx => by unfold numT RV.Go; exact .inr (.inr (.inr (.inl ⟨rfl, rfl⟩)))
  have hR := fun wx => result_any (numT (-h)) (numG (-h)) wx 0 (hgo wx) (fun w' _ => fromGo_flat _ _ w' 0 (numT_good (by omega) (by omega)) (by unfold RV.Sized numT RV.nodes RV.nodesL RV.bytes RV.bytesL keysSize; decide) (hgo w') (by intro k h t l ks vs e; unfold numT at e; injection e with e; subst e; decide))
  have hshape : ∀ wx b x, (numT h).Go wx b x → x = numG h := fun wx b x hx => by
    unfold numT RV.Go at hx
    rcases hx with ⟨e, _⟩ | ⟨e, _⟩ | ⟨e, _⟩ | ⟨_, e⟩ | ⟨e, _⟩ | ⟨e, _⟩ | ⟨e, _⟩
    all_goals first | exact e | exact absurd e (by decide)
  have HT := Lib.hid hT
  have HN := Lib.hid hN
  have HR := Lib.hid hR
  have HS := Lib.hid hshape
  have HB := Lib.hid (fun o o' => ((Below.refl w.heap.size w).alloc (Nat.le_refl _) o).alloc (by simp) o')
  unfold numT RV.Rep at hr
  obtain ⟨al, cl, ak, ck, av, cv, rfl, _⟩ := hr
  clear hT hN hgo hR hshape
  unfold ResPost
  generalize numG h = x0 at HN HS
  generalize numG (-h) = y0 at HN HR
  generalize numT (-h) = T at HR ⊢
  go_enter Tryd.func34, Tryd.ntmps34
  go_wp2_with fail
  refine (HT.out _ (HB.out _ _)).mono ?_
  rintro e w1 ⟨x, rfl, hx, hb1⟩
  obtain rfl := HS.out _ _ _ hx
  have HB1 := Lib.hid ((HB.out _ _).trans (hb1.mono (by simp; omega)))
  obtain ⟨hc1', hf1'⟩ := bcell hb1
  have hz1 := hb1.size
  simp at hz1
  clear hb1 hx
  have hy1 : w.heap.size + 1 < w1.heap.size := by omega
  have hc1 := fun o => hc1' (w.heap.size + 1) o (by simp)
  have hf1 := fun o => hf1' (w.heap.size + 1) o (by simp)
  clear hc1' hf1'
  go_wp2_with (first | (go_at_call 56; refine (HN.out _).mono ?_; rintro e w2 ⟨rfl, rfl⟩) | (go_at_call 46; refine (HR.out _).mono ?_; rintro e w3 ⟨r, rfl, hr, hb3⟩; have hsh := hr.shape; have HRR := Lib.hid hr; have HB3 := Lib.hid (HB1.out.trans (hb3.mono HB1.out.size)); have HZ3 := Lib.hid hb3.size; obtain ⟨hc3', hf3'⟩ := bcell hb3; have hc3 := fun o => hc3' (w.heap.size + 1) o hy1; have hf3 := fun o => hf3' (w.heap.size + 1) o hy1; clear hc3' hf3' hb3 hr; obtain ⟨rk, rh, rt, ral, rn, rcl, rak, rm, rck, rav, rq, rcv, rfl⟩ := hsh))
  refine bodyPost_ret (v := .agg #[.int .i64 rk, .int .i64 rh, .string rt, .slice ral rn rcl, .slice rak rm rck, .slice rav rq rcv, .int .i64 0]) (by rw [results_cell rfl]; go_simp) rfl ?_
  have fin : ∀ wx, w3.grownBy wx (some (w.heap.size + 1)) → (∃ r, Ending.returned (.agg #[.int .i64 rk, .int .i64 rh, .string rt, .slice ral rn rcl, .slice rak rm rck, .slice rav rq rcv, .int .i64 0]) = Ending.returned r ∧ ResHere w.heap.size T wx r ∧ Below w.heap.size w wx) := fun wx hgb => by
    refine ⟨_, rfl, fun wy hx => HRR.out wy fun kk hb hk => ?_, below_gb HB3.out hgb HB3.out.size (Nat.le_succ _)⟩
    exact (hx kk (by omega) (Nat.lt_of_lt_of_le hk hgb.size)).trans (hgb.block kk hk (fun e => by injection e; omega))
  with_reducible refine fin _ ?_
  repeat' (with_reducible first | exact World.grownBy.refl _ _ | refine gb_alloc ?_ _ | refine gb_set ?_ _ _)

theorem ResIs.rep {y : RV} {w : World} {k h t al n cl ak m ck av q cv} (h' : ResIs y w (.agg #[.int .i64 k, .int .i64 h, .string t, .slice al n cl, .slice ak m ck, .slice av q cv, .int .i64 0])) :
    y.Rep w (.agg #[.int .i64 k, .int .i64 h, .string t, .slice al n cl, .slice ak m ck, .slice av q cv]) := by
  obtain ⟨k', h'', t', al', n', cl', ak', m', ck', av', q', cv', e, hr⟩ := h'
  simp only [Value.agg.injEq, Array.mk.injEq, List.cons.injEq, Value.int.injEq, Value.string.injEq, Value.slice.injEq, true_and, and_true] at e
  obtain ⟨rfl, rfl, rfl, ⟨rfl, rfl, rfl⟩, ⟨rfl, rfl, rfl⟩, rfl, rfl, rfl⟩ := e
  exact hr

def NumPost (x : RV) (w : World) (e : Ending) (w' : World) : Prop := (∃ b, e = .returned (.bool b) ∧ (b = true → ∃ h, x = numT h ∧ (-18014398509481984 ≤ h ∧ h ≤ 18014398509481984) ∧ (h % 2 = 0 ∨ (-9007199254740992 < h ∧ h < 9007199254740992)))) ∧ Below w.heap.size w w'

set_option maxRecDepth 100000 in
set_option maxHeartbeats 800000 in
theorem num_any (x : RV) (v : Value) (w : World) (hT : Tabs w) (hr : x.Rep w v) :
    Calls Tryd.prog 33 #[v, .int .i64 4503599627370496] w (NumPost x w) := by
  have HF := Lib.hid (fun wx (hb : Below w.heap.size w wx) => fit_any x v wx (hT.below hb) (hr.below hb))
  have HB := Lib.hid (fun o => (Below.refl w.heap.size w).alloc (Nat.le_refl _) o)
  obtain ⟨k, h, t, l, ks, vs⟩ := x
  unfold RV.Rep at hr
  obtain ⟨al, cl, ak, ck, av, cv, rfl, _⟩ := hr
  go_enter Tryd.func33, Tryd.ntmps33
  go_wp2_with fail
  refine (HF.out _ (HB.out _)).mono ?_
  rintro e w1 ⟨b, rfl, hb1, hq⟩
  have HQ := Lib.hid hq
  have HB1 := Lib.hid ((HB.out _).trans (hb1.mono (by simp)))
  obtain ⟨hc1', -⟩ := bcell hb1
  have hc1 := fun o => hc1' w.heap.size o (by simp)
  clear hq hb1 hc1'
  cases b
  · go_wp2_with fail
    go_ret
    exact ⟨⟨false, rfl, fun e => by cases e⟩, HB1.out⟩
  · have HK : Hid (k = 3 → ∃ h', RV.mk k h t l ks vs = numT h' ∧ (-18014398509481984 ≤ h' ∧ h' ≤ 18014398509481984) ∧ (h' % 2 = 0 ∨ (-9007199254740992 < h' ∧ h' < 9007199254740992))) := Lib.hid (fun k3 => by
      have hg := (HQ.out rfl).1
      obtain ⟨r3, r4, r5, r6, hk0, hk6, hh0, hh1, gl, gv⟩ := hg.rest
      subst k3
      unfold RV.Good at hg
      rw [r4 (by decide), r5 (by decide), (r6 (by decide)).1, (r6 (by decide)).2]
      exact ⟨h, rfl, ⟨hh0, hh1⟩, hg.2.2.2.2.2.2.2.2.2.1⟩)
    clear HQ
    by_cases k3 : k = 3
    · subst k3
      have HK3 := Lib.hid (HK.out rfl)
      clear HK
      go_wp2_with fail
      all_goals go_ret
      all_goals exact ⟨⟨_, rfl, fun _ => HK3.out⟩, HB1.out⟩
    · go_wp2_with fail
      go_ret
      exact ⟨⟨false, rfl, fun e => by cases e⟩, HB1.out⟩

set_option maxRecDepth 100000 in
set_option maxHeartbeats 1600000 in
theorem fnNegateTwice_law_at {x : RV} {v : Value} {w : World} (hr : x.Rep w v) (hT : Tabs w) :
    Calls Tryd.prog 9 #[v] w fun e w' => e = .returned (.bool true) ∧ Below w.heap.size w w' := by
  have HX := Lib.hid hr
  have HT := Lib.hid hT
  obtain ⟨k, h, t, l, ks, vs⟩ := x
  have hr' := hr
  unfold RV.Rep at hr'
  obtain ⟨al, cl, ak, ck, av, cv, rfl, -⟩ := hr'
  clear hT
  have HZ := Lib.hid (fun wx (hb : Below w.heap.size w wx) => fits1_any _ _ wx (hr.below hb))
  have HM := Lib.hid (fun wx (hb : Below w.heap.size w wx) => num_any _ _ wx (HT.out.below hb) (hr.below hb))
  clear hr
  go_enter Tryd.func9, Tryd.ntmps9
  go_wp2_with fail
  refine (HZ.out _ ((Below.refl _ _).alloc (Nat.le_refl _) _)).mono ?_
  rintro e w1 ⟨⟨b0, rfl⟩, hb1⟩
  have HB1 := Lib.hid (((Below.refl w.heap.size w).alloc (Nat.le_refl _) _).trans (hb1.mono (by simp)))
  obtain ⟨hc1', -⟩ := bcell hb1
  have hc1 := fun o => hc1' w.heap.size o (by simp)
  have hz1 := hb1.size
  simp at hz1
  have hy1 : w.heap.size < w1.heap.size := by omega
  clear hb1 hc1' hz1
  cases b0
  · go_wp2_with fail
    go_ret
    exact ⟨rfl, HB1.out⟩
  · go_wp2_with fail
    refine (HM.out _ HB1.out).mono ?_
    rintro e w2 ⟨⟨b, rfl, hq⟩, hb2⟩
    have HQ := Lib.hid hq
    have HB2 := Lib.hid (HB1.out.trans (hb2.mono HB1.out.size))
    obtain ⟨hc2', -⟩ := bcell hb2
    have hc2 := fun o => hc2' w.heap.size o hy1
    have hy2 : w.heap.size < w2.heap.size := Nat.lt_of_lt_of_le hy1 hb2.size
    clear hb2 hc2' hq
    cases b
    · go_wp2_with fail
      go_ret
      exact ⟨rfl, HB2.out⟩
    · obtain ⟨h', hx, hbb, hpp⟩ := HQ.out rfl
      clear HQ
      injection hx with e1 e2 e3 e4 e5 e6
      subst e1 e2 e3 e4 e5 e6
      have HG := Lib.hid (fun (r : Value) (wx : World) (hb : Below w.heap.size w wx) (hR : ResIs (numT h) wx r) => given_any (numT h) r _ wx (numT_good hbb hpp) hR (HX.out.below hb))
      have HN := Lib.hid (fun (wx : World) (hb : Below w.heap.size w wx) => implNegate_any h _ wx hbb hpp (HX.out.below hb))
      have HN1 := Lib.hid (fun (v : Value) (wx : World) (hv : (numT (-h)).Rep wx v) => (show Calls Tryd.prog 34 #[v] wx (ResPost (numT h) wx) by have h3 := implNegate_any (-h) v wx (by omega) (by omega) hv; rwa [Int.neg_neg] at h3))
      clear HM HZ
      go_wp2_with fail
      refine (HN.out _ HB2.out).mono ?_
      rintro e w3 ⟨r, rfl, hres, hb3⟩
      have HR := Lib.hid hres
      have HB3 := Lib.hid (HB2.out.trans (hb3.mono HB2.out.size))
      obtain ⟨hc3', -⟩ := bcell hb3
      have hc3 := fun o => hc3' w.heap.size o hy2
      have hy3 : w.heap.size < w3.heap.size := Nat.lt_of_lt_of_le hy2 hb3.size
      obtain ⟨rk, rh, rt, ral, rn, rcl, rak, rm, rck, rav, rq, rcv, rfl⟩ := hres.shape
      clear hb3 hc3' hres
      go_wp2_with fail
      refine wp_region_any (by kernel_rfl) ?_
      change wpAny _ _ _ _ _ _ _ (World.drew (w3.alloc (.cells #[.int .i64 rk, .int .i64 rh, .string rt, .slice ral rn rcl, .slice rak rm rck, .slice rav rq rcv, .int .i64 0] 46)))
      have hb4 : Below w3.heap.size w3 (World.drew (w3.alloc (.cells #[.int .i64 rk, .int .i64 rh, .string rt, .slice ral rn rcl, .slice rak rm rck, .slice rav rq rcv, .int .i64 0] 46))) := ((Below.refl _ _).alloc (Nat.le_refl _) _).drew
      have q0 : (World.drew (w3.alloc (.cells #[.int .i64 rk, .int .i64 rh, .string rt, .slice ral rn rcl, .slice rak rm rck, .slice rav rq rcv, .int .i64 0] 46))).cell? ⟨w3.heap.size, 0, none⟩ = some (.int .i64 rk) := by simp
      have q1 : (World.drew (w3.alloc (.cells #[.int .i64 rk, .int .i64 rh, .string rt, .slice ral rn rcl, .slice rak rm rck, .slice rav rq rcv, .int .i64 0] 46))).cell? ⟨w3.heap.size, 1, none⟩ = some (.int .i64 rh) := by simp
      have q2 : (World.drew (w3.alloc (.cells #[.int .i64 rk, .int .i64 rh, .string rt, .slice ral rn rcl, .slice rak rm rck, .slice rav rq rcv, .int .i64 0] 46))).cell? ⟨w3.heap.size, 2, none⟩ = some (.string rt) := by simp
      have q3 : (World.drew (w3.alloc (.cells #[.int .i64 rk, .int .i64 rh, .string rt, .slice ral rn rcl, .slice rak rm rck, .slice rav rq rcv, .int .i64 0] 46))).cell? ⟨w3.heap.size, 3, none⟩ = some (.slice ral rn rcl) := by simp
      have q4 : (World.drew (w3.alloc (.cells #[.int .i64 rk, .int .i64 rh, .string rt, .slice ral rn rcl, .slice rak rm rck, .slice rav rq rcv, .int .i64 0] 46))).cell? ⟨w3.heap.size, 4, none⟩ = some (.slice rak rm rck) := by simp
      have q5 : (World.drew (w3.alloc (.cells #[.int .i64 rk, .int .i64 rh, .string rt, .slice ral rn rcl, .slice rak rm rck, .slice rav rq rcv, .int .i64 0] 46))).cell? ⟨w3.heap.size, 5, none⟩ = some (.slice rav rq rcv) := by simp
      generalize (World.drew (w3.alloc (.cells #[.int .i64 rk, .int .i64 rh, .string rt, .slice ral rn rcl, .slice rak rm rck, .slice rav rq rcv, .int .i64 0] 46))) = w4 at hb4 q0 q1 q2 q3 q4 q5 ⊢
      have HB4 := Lib.hid (HB3.out.trans (hb4.mono HB3.out.size))
      obtain ⟨hc4', -⟩ := bcell hb4
      have hc4 := fun o => hc4' w.heap.size o hy3
      have hy4 : w.heap.size < w4.heap.size := Nat.lt_of_lt_of_le hy3 hb4.size
      have HR4 := Lib.hid (HR.out.same (SameFrom.of_below hb4 _) hb4.size).is.rep
      clear hb4 hc4'
      iterate 6 (all_goals (try (
        (first | (refine wpAny_ready (rs := [0, 3]) (by decide +kernel) (by simp) ?_; refine (AllReady.cons rfl (fun K hK => ?_) (AllReady.cons rfl (fun K hK => ?_) AllReady.nil))) | (refine wpAny_ready (rs := [1, 3]) (by decide +kernel) (by simp) ?_; refine (AllReady.cons rfl (fun K hK => ?_) (AllReady.cons rfl (fun K hK => ?_) AllReady.nil))) | (refine wpAny_ready (rs := [2, 3]) (by decide +kernel) (by simp) ?_; refine (AllReady.cons rfl (fun K hK => ?_) (AllReady.cons rfl (fun K hK => ?_) AllReady.nil))) | (refine wpAny_ready (rs := [3]) (by decide +kernel) (by simp) ?_; refine (AllReady.cons rfl (fun K hK => ?_) AllReady.nil)) | (refine wpAny_ready (rs := [0]) (by decide +kernel) (by simp) ?_; refine (AllReady.cons rfl (fun K hK => ?_) AllReady.nil)) | (refine wpAny_ready (rs := [1]) (by decide +kernel) (by simp) ?_; refine (AllReady.cons rfl (fun K hK => ?_) AllReady.nil)) | (refine wpAny_ready (rs := [2]) (by decide +kernel) (by simp) ?_; refine (AllReady.cons rfl (fun K hK => ?_) AllReady.nil)) | (refine wpAny_ready (rs := [4]) (by decide +kernel) (by simp) ?_; refine (AllReady.cons rfl (fun K hK => ?_) AllReady.nil)) | (refine wpAny_ready (rs := [5]) (by decide +kernel) (by simp) ?_; refine (AllReady.cons rfl (fun K hK => ?_) AllReady.nil))) <;> go_simp <;> (try go_wp2_with (first | (go_at_call 34; refine (HN1.out _ _ HR4.out).mono ?_; rintro e w5 ⟨r2, rfl, hr2, hb5⟩; have HR2 := Lib.hid hr2; have HB5 := Lib.hid (HB4.out.trans (hb5.mono HB4.out.size)); obtain ⟨hc5', -⟩ := bcell hb5; have hc5 := fun o => hc5' w.heap.size o hy4; obtain ⟨qk, qh, qt, qal, qn, qcl, qak, qm, qck, qav, qq, qcv, rfl⟩ := hr2.shape; clear hc5' hr2 hb5) | (go_at_call 23; refine (HG.out _ _ HB5.out HR2.out.is).mono ?_; rintro e w6 ⟨rfl, hb6⟩; have HB6 := Lib.hid (HB5.out.trans (hb6.mono HB5.out.size)); clear hb6))) <;> (try (refine hK _ _ ?_; clear hK K)))))
      all_goals refine wpAny_done (by kernel_rfl) ?_ _
      all_goals go_wp2_with fail
      all_goals go_ret
      all_goals exact ⟨rfl, HB6.out⟩
end Go.Proofs.YtjpcdbopioblaaaDoor
