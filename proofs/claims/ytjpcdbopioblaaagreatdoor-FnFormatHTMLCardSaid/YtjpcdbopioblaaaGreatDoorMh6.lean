/- The reference's Fit walked: what it is that it answers yes to. -/
import Derived.Test.YtjpcdbopioblaaaGreatDoorMh3
namespace Go.Proofs.YtjpcdbopioblaaaGreatDoor
open Go.RowKit

/-- The state of a call of 'value': the box of its argument, the looker. -/
structure ValSt (W w : World) (L X : Nat) (cs : Array Value) (p b : Int) (bad : Bool) (wx : World) : Prop where
  box : wx.heap[X]? = some (.cells cs 27 (0, 0))
  lk : Lk wx L p b bad
  grown : w.grownBy wx (some L)
  below : Below W.heap.size W wx

theorem ValSt.step {W w wx w' : World} {L X : Nat} {cs : Array Value} {p b p' b' : Int} {bad bad' : Bool} (h : ValSt W w L X cs p b bad wx) (hl : Lk w' L p' b' bad') (hg : wx.grownBy w' (some L)) (hX : X ≠ L) (hL : W.heap.size ≤ L) :
    ValSt W w L X cs p' b' bad' w' :=
  ⟨(hg.block X (lt_of_block h.box) (by simp [hX])).trans h.box, hl, gb_trans h.grown hg, below_gb h.below hg h.below.size hL⟩
theorem ValSt.drew {W w wx : World} {L X : Nat} {cs : Array Value} {p b : Int} {bad : Bool} (h : ValSt W w L X cs p b bad wx) : ValSt W w L X cs p b bad wx.drew :=
  ⟨h.box, h.lk, ⟨h.grown.os, h.grown.tape, h.grown.output, h.grown.size, h.grown.block⟩, h.below.drew⟩
theorem ValSt.cell {W w wx : World} {L X : Nat} {cs : Array Value} {p b : Int} {bad : Bool} (h : ValSt W w L X cs p b bad wx) (i : Nat) : wx.cell? ⟨X, i, none⟩ = cs[i]? := by simp [World.cell?, h.box]

def ValPost (L : Nat) (p b : Int) (bad : Bool) (x : RV) (w : World) (e : Ending) (w' : World) : Prop :=
  ∃ p' b' bad', e = .returned (.tuple #[]) ∧ Lk w' L p' b' bad' ∧ w.grownBy w' (some L) ∧ 0 ≤ p' ∧ p' ≤ 401 ∧ 0 ≤ b' ∧ b' ≤ 140737488353232 ∧
    (bad' = false → bad = false ∧ p' ≤ 400 ∧ b' ≤ 2000 ∧ x.Good ∧ p' = p + x.nodes ∧ b' = b + x.bytes)

/-- What the first three tests say. -/
def Flat1 (k h : Int) (t : ByteArray) (l : List RV) (ks : List ByteArray) (vs : List RV) : Prop := 0 ≤ k ∧ k ≤ 6 ∧ (k = 3 ∨ h = 0) ∧ (k = 4 ∨ t.toList = []) ∧ (k = 5 ∨ l = []) ∧ (k = 6 ∨ ks = []) ∧ ks.length = vs.length
def Flat2 (h : Int) : Prop := -18014398509481984 ≤ h ∧ h ≤ 18014398509481984 ∧ (h.tmod 2 = 0 ∨ (-9007199254740992 < h ∧ h < 9007199254740992))

/-- What has been done of a list of values. -/
structure ListSt (W w : World) (L X : Nat) (cs : Array Value) (p b : Int) (bad : Bool) (l : List RV) (p' b' : Int) (bad' : Bool) (wx : World) : Prop where
  st : ValSt W w L X cs p' b' bad' wx
  p0 : 0 ≤ p'
  p1 : p' ≤ 401
  b0 : 0 ≤ b'
  b1 : b' ≤ 140737488353232
  ok : bad' = false → bad = false ∧ p' ≤ 400 ∧ b' ≤ 2000 ∧ RV.GoodL l ∧ p' = p + RV.nodesL l ∧ b' = b + RV.bytesL l

theorem ListSt.bad' {W w : World} {L X : Nat} {cs : Array Value} {p b : Int} {bad : Bool} {l l2 : List RV} {p' b' : Int} {wx : World} (h : ListSt W w L X cs p b bad l p' b' true wx) : ListSt W w L X cs p b bad l2 p' b' true wx :=
  ⟨h.st, h.p0, h.p1, h.b0, h.b1, fun e => by cases e⟩
theorem ListSt.step {W w : World} {L X : Nat} {cs : Array Value} {p b : Int} {bad : Bool} {l : List RV} {i : Nat} {p' b' : Int} {wx w' : World} {e : Ending} (h : ListSt W w L X cs p b bad (l.take i) p' b' false wx) (hi : i < l.length) (hX : X ≠ L) (hL : W.heap.size ≤ L)
    (hv : ValPost L p' b' false l[i] wx e w') : e = .returned (.tuple #[]) ∧ ∃ p'' b'' bad'', ListSt W w L X cs p b bad (l.take (i + 1)) p'' b'' bad'' w' := by
  obtain ⟨p'', b'', bad'', rfl, hl, hg, q0, q1, q2, q3, q⟩ := hv
  refine ⟨rfl, p'', b'', bad'', h.st.step hl hg hX hL, q0, q1, q2, q3, fun e => ?_⟩
  obtain ⟨_, r1, r2, r3, r4, r5⟩ := q e
  obtain ⟨s0, s1, s2, s3, s4, s5⟩ := h.ok rfl
  refine ⟨s0, r1, r2, (RV.GoodL.take_succ hi).2 ⟨s3, r3⟩, ?_, ?_⟩
  · rw [RV.nodesL_take_succ hi]; omega
  · rw [RV.bytesL_take_succ hi]; omega

/-- What has been done of the keys and their values. -/
structure KeySt (W w : World) (L X : Nat) (cs : Array Value) (p b : Int) (bad : Bool) (ks : List ByteArray) (vs : List RV) (p' b' : Int) (bad' : Bool) (wx : World) : Prop where
  st : ValSt W w L X cs p' b' bad' wx
  p0 : 0 ≤ p'
  p1 : p' ≤ 401
  b0 : 0 ≤ b'
  b1 : b' ≤ 140737488353232
  ok : bad' = false → bad = false ∧ p' ≤ 400 ∧ b' ≤ 2000 ∧ (∀ x ∈ ks, Lib.validD x.data.toList = true) ∧ KeysUp ks ∧ RV.GoodL vs ∧ p' = p + RV.nodesL vs ∧ b' = b + keysSize ks + RV.bytesL vs

theorem KeysUp.take_succ {ks : List ByteArray} {i : Nat} (h : i < ks.length) (hu : KeysUp (ks.take i)) (hn : 0 < i → ∀ h : i - 1 < ks.length, Op.bytesLess (ks[i - 1]).toList ks[i].toList = true) : KeysUp (ks.take (i + 1)) := by
  intro j hj
  simp only [List.length_take] at hj
  simp only [List.getElem_take]
  by_cases he : j + 1 = i
  · subst he
    have := hn (by omega) (by omega)
    simpa using this
  · have := hu j (by simp; omega)
    simpa using this

theorem KeySt.step {W w : World} {L X : Nat} {cs : Array Value} {p b : Int} {bad : Bool} {ks : List ByteArray} {vs : List RV} {i : Nat} {p' b' p9 b9 : Int} {wx w9 : World} {key : ByteArray} {bad7 bad8 bad9 : Bool}
    (h : KeySt W w L X cs p b bad (ks.take i) (vs.take i) p' b' false wx) (hs : ValSt W w L X cs p9 b9 bad9 w9) (hlt : i < ks.length) (hltv : i < vs.length) (hkey : ks[i] = key)
    (h7 : bad7 = false → b' + key.size ≤ 2000 ∧ Lib.validD key.data.toList = true) (h8 : bad8 = false → bad7 = false ∧ (0 < i → ∀ h : i - 1 < ks.length, Op.bytesLess (ks[i - 1]).toList key.toList = true))
    (v0 : 0 ≤ p9) (v1 : p9 ≤ 401) (v2 : 0 ≤ b9) (v3 : b9 ≤ 140737488353232) (vq : bad9 = false → bad8 = false ∧ p9 ≤ 400 ∧ b9 ≤ 2000 ∧ vs[i].Good ∧ p9 = p' + vs[i].nodes ∧ b9 = b' + key.size + vs[i].bytes) :
    KeySt W w L X cs p b bad (ks.take (i + 1)) (vs.take (i + 1)) p9 b9 bad9 w9 := by
  subst hkey
  refine ⟨hs, v0, v1, v2, v3, fun e => ?_⟩
  obtain ⟨e8, q1, q2, q3, q4, q5⟩ := vq e
  obtain ⟨e7, q6⟩ := h8 e8
  obtain ⟨q7, q8⟩ := h7 e7
  obtain ⟨s0, s1, s2, s3, s4, s5, s6, s7⟩ := h.ok rfl
  refine ⟨s0, q1, q2, ?_, KeysUp.take_succ hlt s4 q6, (RV.GoodL.take_succ hltv).2 ⟨s5, q3⟩, ?_, ?_⟩
  · intro x hx
    rw [List.take_succ_eq_append_getElem hlt] at hx
    rcases List.mem_append.1 hx with hx | hx
    · exact s3 x hx
    · rw [List.mem_singleton.1 hx]; exact q8
  · rw [RV.nodesL_take_succ hltv]; omega
  · rw [RV.bytesL_take_succ hltv, keysSize_take_succ hlt]; omega

theorem KeySt.postBad {W w : World} {L X : Nat} {cs : Array Value} {p b : Int} {bad bad0 : Bool} {ks : List ByteArray} {vs : List RV} {p' b' p0 b0 : Int} {wx : World} {x : RV}
    (h : KeySt W w L X cs p b bad ks vs p' b' true wx) : ValPost L p0 b0 bad0 x w (.returned (.tuple #[])) wx :=
  ⟨p', b', true, rfl, h.st.lk, h.st.grown, h.p0, h.p1, h.b0, h.b1, fun e => by cases e⟩

theorem KeySt.post {W w : World} {L X : Nat} {cs : Array Value} {p b : Int} {bad bad1 bad2 bad3 bad4 bad6 : Bool} {k h0 : Int} {t : ByteArray} {l : List RV} {ks : List ByteArray} {vs : List RV} {i : Nat} {p' b' p6 b6 : Int} {wx w6 : World}
    (h : KeySt W w L X cs p6 b6 bad6 (ks.take i) (vs.take i) p' b' false wx) (hi : ks.length ≤ i) (_hq : True)
    (hf1 : bad2 = false → Flat1 k h0 t l ks vs) (hf2 : bad3 = false → bad2 = false ∧ Flat2 h0) (hs6 : ListSt W w L X cs (p + 1) (b + t.size) bad4 l p6 b6 bad6 w6)
    (hq4 : bad4 = false → bad3 = false ∧ b + t.size ≤ 2000 ∧ Lib.validD t.data.toList = true) (hq1 : bad1 = false → bad = false ∧ p + 1 ≤ 400 ∧ b ≤ 2000) (h1 : bad1 = false) :
    ValPost L p b bad (.mk k h0 t l ks vs) w (.returned (.tuple #[])) wx := by
  refine ⟨p', b', false, rfl, h.st.lk, h.st.grown, h.p0, h.p1, h.b0, h.b1, fun _ => ?_⟩
  obtain ⟨s0, s1, s2, s3, s4, s5, s6, s7⟩ := h.ok rfl
  obtain ⟨r0, r1, r2, r3, r4, r5⟩ := hs6.ok s0
  obtain ⟨e3, q1, q2⟩ := hq4 r0
  obtain ⟨e2, g1, g2, g3⟩ := hf2 e3
  obtain ⟨f1, f2, f3, f4, f5, f6, f7⟩ := hf1 e2
  have hk : ks.take i = ks := List.take_of_length_le hi
  have hv : vs.take i = vs := List.take_of_length_le (by omega)
  rw [hk] at s3 s4 s7
  rw [hv] at s5 s6 s7
  refine ⟨(hq1 h1).1, s1, s2, ?_, ?_, ?_⟩
  · unfold RV.Good
    refine ⟨f1, f2, f3, f4.imp id (fun e => ?_), f5, f6, f7, g1, g2, g3.imp (fun e => Int.emod_eq_zero_of_dvd (Int.dvd_of_tmod_eq_zero e)) id, q2, r3, s3, s4, s5⟩
    rw [ByteArray.toList_eq] at e
    obtain ⟨⟨tl⟩⟩ := t
    simp only at e
    subst e
    rfl
  · unfold RV.nodes; omega
  · unfold RV.bytes; omega

set_option maxRecDepth 100000 in
set_option maxHeartbeats 8000000 in
theorem value_any (W : World) (hT : Tabs W) (L : Nat) (hL : W.heap.size ≤ L) (n : Nat) : ∀ (x : RV) (v : Value) (p b deep : Int) (bad : Bool) (w : World), x.nodes ≤ n → Below W.heap.size W w → Lk w L p b bad → x.Rep W v →
    0 ≤ p → p ≤ 400 → 0 ≤ b → b ≤ 140737488353232 → (bad = false → b ≤ 2000) → 0 ≤ deep → deep ≤ 61 →
    Calls Tryz.prog 47 #[.pointer (some ⟨L, 0, none⟩), v, .int .i64 deep] w (ValPost L p b bad x w) := by
  induction n with
  | zero => intro x v p b deep bad w hn; have := x.nodes_pos; omega
  | succ n ih =>
  intro x v p b deep bad w hn hB hl hr hp hp' hb hb' hbad hd hd'
  obtain ⟨k, h, t, l, ks, vs⟩ := x
  have HIH := Lib.hid ih
  have HN := Lib.hid hn
  clear ih hn
  unfold RV.Rep at hr
  obtain ⟨al, cl, ak, ck, av, cv, rfl, hk, hh, ht, hll, hlk, hlv, hrl, hrk, hrv⟩ := hr
  have hlt := hl.lt
  have hl0 := hl.kept ((Below.refl w.heap.size w).alloc (Nat.le_refl _) (.cells #[.int .i64 k, .int .i64 h, .string t, .slice al l.length cl, .slice ak ks.length ck, .slice av vs.length cv] 27))
  have HL0 := Lib.hid hl0
  have HBAD := Lib.hid hbad
  clear hl0 hbad
  go_enter Tryz.func47, Tryz.ntmps47
  go_upto_region 2 with (go_at_call 93; refine (part_any L p b deep bad _ HL0.out hp (by omega)).mono ?_; rintro e w1 ⟨bad1, rfl, hl1, hg1, hq1⟩; have HQ1 := Lib.hid hq1; clear hq1; cases bad1)
  · obtain ⟨cs, hcs⟩ : ∃ cs : Array Value, cs = #[.int .i64 k, .int .i64 h, .string t, .slice al l.length cl, .slice ak ks.length ck, .slice av vs.length cv] := ⟨_, rfl⟩
    have S1 : ValSt W w L w.heap.size cs (p + 1) b false w1 := by
      refine ⟨?_, hl1, gb_trans (gb_alloc (World.grownBy.refl w _) _) hg1, below_gb (hB.alloc hB.size _) hg1 (by have := hB.size; simp; omega) hL⟩
      rw [hcs]
      exact (hg1.block w.heap.size (by simp) (by simp; omega)).trans (heap_alloc_new _ _)
    have HCS := Lib.hid hcs
    have HS1 := Lib.hid S1
    clear hcs S1 hl1 hg1
    go_cut [1] (fun _ wx => ∃ bad2, ValSt W w L w.heap.size cs (p + 1) b bad2 wx ∧ (bad2 = false → Flat1 k h t l ks vs))
    case first => as_aux_lemma =>
      have k0 : w1.cell? ⟨w.heap.size, 0, none⟩ = some (.int .i64 k) := by rw [HS1.out.cell, HCS.out]; rfl
      have k1 : w1.cell? ⟨w.heap.size, 1, none⟩ = some (.int .i64 h) := by rw [HS1.out.cell, HCS.out]; rfl
      have k2 : w1.cell? ⟨w.heap.size, 2, none⟩ = some (.string t) := by rw [HS1.out.cell, HCS.out]; rfl
      have k3 : w1.cell? ⟨w.heap.size, 3, none⟩ = some (.slice al l.length cl) := by rw [HS1.out.cell, HCS.out]; rfl
      have k4 : w1.cell? ⟨w.heap.size, 4, none⟩ = some (.slice ak ks.length ck) := by rw [HS1.out.cell, HCS.out]; rfl
      have k5 : w1.cell? ⟨w.heap.size, 5, none⟩ = some (.slice av vs.length cv) := by rw [HS1.out.cell, HCS.out]; rfl
      go_wp2_with (go_at_call 94; refine (want_any L (p + 1) b false _ _ HS1.out.lk).mono ?_; rintro e w2 ⟨rfl, hl2, hg2⟩)
      all_goals go_meet
      all_goals exact ⟨_, HS1.out.step hl2 hg2 (by omega) hL, fun hq => by simp at hq <;> (refine ⟨by omega, by omega, ?_, ?_, ?_, ?_, ?_⟩ <;> first | omega | (simp [*]; done) | (simp [*]; omega))⟩
    case rest =>
      obtain ⟨bad2, hs2, hf1⟩ := hcut
      have HS2 := Lib.hid hs2
      have HF1 := Lib.hid hf1
      clear hs2 hf1
      go_upto_region 3 with fail
      go_cut [] (fun wx => ∃ bad3, ValSt W w L w.heap.size cs (p + 1) b bad3 wx ∧ (bad3 = false → bad2 = false ∧ Flat2 h))
      case first => as_aux_lemma =>
        have k1 : wc.cell? ⟨w.heap.size, 1, none⟩ = some (.int .i64 h) := by rw [HS2.out.cell, HCS.out]; rfl
        go_wp2_with (go_at_call 94; refine (want_any L (p + 1) b bad2 _ _ HS2.out.lk).mono ?_; rintro e w2 ⟨rfl, hl2, hg2⟩)
        all_goals go_meet
        all_goals exact ⟨_, HS2.out.step hl2 hg2 (by omega) hL, fun hq => by simp at hq <;> (refine ⟨by simp [*], by omega, by omega, ?_⟩; first | exact .inl (by assumption) | (refine .inr ⟨by omega, by omega⟩))⟩
      case rest =>
        obtain ⟨bad3, hs3, hf2⟩ := hcut
        have HS3 := Lib.hid hs3
        have HF2 := Lib.hid hf2
        clear hs3 hf2
        have hb2 : b ≤ 2000 := (HQ1.out trivial).2.2.1
        have k2 : wc.cell? ⟨w.heap.size, 2, none⟩ = some (.string t) := by rw [HS3.out.cell, HCS.out]; rfl
        go_upto_block 0 with (go_at_call 95; refine (str_any L (p + 1) b bad3 t W _ HS3.out.below HS3.out.lk hT hL ht hb (by omega)).mono ?_; rintro e w3 ⟨bad4, rfl, hl4, hg4, hq4⟩; have HS4 := Lib.hid (HS3.out.step hl4 hg4 (by omega) hL); have HQ4 := Lib.hid hq4; clear hl4 hg4 hq4)
        go_cut [6] (fun _ wx => ∃ p' b' bad', ListSt W w L w.heap.size cs (p + 1) (b + t.size) bad4 l p' b' bad' wx)
        case first => as_aux_lemma =>
          have hr0 := Lib.hid hrl
          clear hrl k2
          have h0 : ListSt W w L w.heap.size cs (p + 1) (b + t.size) bad4 (l.take 0) (p + 1) (b + t.size) bad4 w3 := ⟨HS4.out, by omega, by omega, by omega, by unfold reachN at ht; omega, fun hq => ⟨hq, (HQ1.out trivial).2.1, (HQ4.out hq).2.1, by simp [RV.GoodL], by simp [RV.nodesL], by simp [RV.bytesL]⟩⟩
          have H0 := Lib.hid h0
          clear h0
          go_wp2_with fail
          go_loopg [6] (l.length) (fun gk s6 wr => ∃ (i : Nat) (p' b' : Int) (bad' : Bool), s6 = .int .i64 i ∧ i ≤ l.length ∧ gk = l.length - i ∧ Hid (ListSt W w L w.heap.size cs (p + 1) (b + t.size) bad4 (l.take i) p' b' bad' wr))
          case atStart => exact ⟨0, _, _, _, rfl, Nat.zero_le _, rfl, H0⟩
          case round =>
            obtain ⟨i, p', b', bad', rfl, hi, rfl, HR⟩ := hrel
            have k3 : wr.cell? ⟨w.heap.size, 3, none⟩ = some (.slice al l.length cl) := by rw [HR.out.st.cell, HCS.out]; rfl
            have k6 : wr.cell? ⟨L, 2, none⟩ = some (.bool bad') := HR.out.st.lk.c2
            unfold reachN at hll
            cases bad'
            · by_cases hlt : i < l.length
              · obtain ⟨eb, eo, c0, c1, c2, c3, c4, c5, rfl, e0, e1, e2, e3, e4, e5, hre⟩ := hr0.out.get i hlt
                simp only [Nat.zero_add] at e0 e1 e2 e3 e4 e5
                have HRE := Lib.hid hre
                have hbw := HR.out.st.below
                have hel := cell_lt e0
                have f0 := (hbw.cell (p := ⟨eb, _, none⟩) hel).trans e0
                have f1 := (hbw.cell (p := ⟨eb, _, none⟩) hel).trans e1
                have f2 := (hbw.cell (p := ⟨eb, _, none⟩) hel).trans e2
                have f3 := (hbw.cell (p := ⟨eb, _, none⟩) hel).trans e3
                have f4 := (hbw.cell (p := ⟨eb, _, none⟩) hel).trans e4
                have f5 := (hbw.cell (p := ⟨eb, _, none⟩) hel).trans e5
                clear e0 e1 e2 e3 e4 e5 hre hbw
                have hok := HR.out.ok rfl
                have hnn : l[i].nodes ≤ n := by have := HN.out; unfold RV.nodes at this; have := RV.nodes_le hlt; unfold RV.nodes; unfold RV.nodes at this; omega
                have hdd := (HQ1.out trivial).2.2.2
                have HC := Lib.hid (HIH.out l[i] (.agg #[c0, c1, c2, c3, c4, c5]) p' b' (deep + 1) false wr hnn HR.out.st.below HR.out.st.lk HRE.out HR.out.p0 hok.2.1 HR.out.b0 HR.out.b1 (fun _ => hok.2.2.1) (by omega) (by omega))
                clear hok hnn
                go_wp2_with (go_at_call 47; refine HC.out.mono ?_; intro e w5 hv; obtain ⟨rfl, p5, b5, bad5, hst5⟩ := HR.out.step hlt (by omega) hL hv; have HS5 := Lib.hid hst5; clear hst5 hv)
                go_roundg (l.length - (i + 1))
                case measure => omega
                case rel => exact ⟨i + 1, p5, b5, bad5, by go_num, by omega, rfl, HS5⟩
              · go_wp2_with fail
                go_meet
                exact ⟨p', b', false, by have := HR.out; rwa [List.take_of_length_le (by omega)] at this⟩
            · by_cases hlt : i < l.length
              · go_wp2_with fail
                go_meet
                exact ⟨p', b', true, HR.out.bad'⟩
              · go_wp2_with fail
                go_meet
                exact ⟨p', b', true, HR.out.bad'⟩
        case rest =>
          obtain ⟨p6, b6, bad6, hs6⟩ := hcut
          have HS6 := Lib.hid hs6
          clear hs6
          have hr1 := Lib.hid hrk
          have hr2 := Lib.hid hrv
          clear hrk hrv hrl k2
          have h0 : KeySt W w L w.heap.size cs p6 b6 bad6 (ks.take 0) (vs.take 0) p6 b6 bad6 wc := ⟨HS6.out.st, HS6.out.p0, HS6.out.p1, HS6.out.b0, HS6.out.b1, fun hq => ⟨hq, (HS6.out.ok hq).2.1, (HS6.out.ok hq).2.2.1, by simp, by intro i h; simp at h, by simp [RV.GoodL], by simp [RV.nodesL], by simp [RV.bytesL, keysSize]⟩⟩
          have H0 := Lib.hid h0
          clear h0
          go_wp2_with fail
          go_loopg [7] (ks.length) (fun gk s7 wr => ∃ (i : Nat) (p' b' : Int) (bad' : Bool), s7 = .int .i64 i ∧ i ≤ ks.length ∧ gk = ks.length - i ∧ Hid (KeySt W w L w.heap.size cs p6 b6 bad6 (ks.take i) (vs.take i) p' b' bad' wr))
          case atStart => exact ⟨0, _, _, _, rfl, Nat.zero_le _, rfl, H0⟩
          case round =>
            obtain ⟨i, p', b', bad', rfl, hi, rfl, HR⟩ := hrel
            have k4 : wr.cell? ⟨w.heap.size, 4, none⟩ = some (.slice ak ks.length ck) := by rw [HR.out.st.cell, HCS.out]; rfl
            have k5 : wr.cell? ⟨w.heap.size, 5, none⟩ = some (.slice av vs.length cv) := by rw [HR.out.st.cell, HCS.out]; rfl
            have k6 : wr.cell? ⟨L, 2, none⟩ = some (.bool bad') := HR.out.st.lk.c2
            unfold reachN at hlk hlv
            cases bad'
            · by_cases hlt : i < ks.length
              · have hok := Lib.hid (HR.out.ok rfl)
                have hlen : ks.length = vs.length := (HF1.out (HF2.out (HQ4.out (HS6.out.ok hok.out.1).1).1).1).2.2.2.2.2.2
                have hltv : i < vs.length := by omega
                have HLEN := Lib.hid hlen
                clear hlen
                obtain ⟨kb, ko, rfl, hks, g0⟩ := hr1.out.get i hlt
                simp only [Nat.zero_add] at g0
                have hel := cell_lt g0
                have q0 := (HR.out.st.below.cell (p := ⟨kb, _, none⟩) hel).trans g0
                obtain ⟨key, hkey⟩ : ∃ key, ks[i] = key := ⟨_, rfl⟩
                rw [hkey] at q0 g0 hks
                have HKEY := Lib.hid hkey
                clear hkey
                go_wp2_with fail
                refine (str_any L p' b' false key W _ HR.out.st.below HR.out.st.lk hT hL hks HR.out.b0 (by have := hok.out.2.2.1; omega)).mono ?_
                rintro e w7 ⟨bad7, rfl, hl7, hg7, hq7⟩
                have HS7 := Lib.hid (HR.out.st.step hl7 hg7 (by omega) hL)
                have HQ7 := Lib.hid hq7
                clear hl7 hg7 hq7 k4 k5 k6 q0
                have j4 : w7.cell? ⟨w.heap.size, 4, none⟩ = some (.slice (some ⟨kb, ko, none⟩) ks.length ck) := by rw [HS7.out.cell, HCS.out]; rfl
                have j5 : w7.cell? ⟨w.heap.size, 5, none⟩ = some (.slice av vs.length cv) := by rw [HS7.out.cell, HCS.out]; rfl
                have j0 := (HS7.out.below.cell (p := ⟨kb, _, none⟩) hel).trans g0
                go_wp2_with fail
                go_cut [] (fun wx => ∃ bad8, ValSt W w L w.heap.size cs p' (b' + key.size) bad8 wx ∧ (bad8 = false → bad7 = false ∧ (0 < i → ∀ h : i - 1 < ks.length, Op.bytesLess (ks[i - 1]).toList key.toList = true)))
                case first => as_aux_lemma =>
                  have HS7d := Lib.hid HS7.out.drew
                  by_cases hi0 : i = 0
                  · subst hi0
                    refine wp_region_still_tail 17 (by kernel_rfl) (by kernel_rfl) ?_
                    simp only [List.take_succ_cons, List.take_zero, List.drop_succ_cons, List.drop_zero]
                    iterate 4 with_reducible still_step
                    iterate 12 (with_reducible refine still_skip (by kernel_rfl) ?_; simp only [Act.put, List.setIfInBounds_toArray, List.set_cons_succ, List.set_cons_zero])
                    with_reducible still_step
                    with_reducible refine wpStill_nil ?_
                    go_wp2_with (go_at_call 94; refine (want_any L p' (b' + key.size) bad7 _ _ HS7d.out.lk).mono ?_; rintro e w8 ⟨rfl, hl8, hg8⟩)
                    go_meet
                    exact ⟨_, HS7d.out.step hl8 hg8 (by omega) hL, fun hq => ⟨by simpa using hq, fun h => by omega⟩⟩
                  · obtain ⟨j, rfl⟩ : ∃ j, i = j + 1 := ⟨i - 1, by omega⟩
                    obtain ⟨kb2, ko2, e2, hks2, g2⟩ := hr1.out.get j (by omega)
                    cases e2
                    simp only [Nat.zero_add] at g2
                    have j2 := (HS7.out.below.cell (p := ⟨kb, _, none⟩) hel).trans g2
                    have hwj : IntKind.i64.wrap (j : Int) = j := IntWalk.i64_in _ (by omega)
                    have hj1 : (0 : Int) ≤ j := by omega
                    have hj2 : (j : Int) < (ks.length : Int) := by omega
                    have hj3 : (0 : Int) ≤ (j : Int) + 1 := by omega
                    have hj4 : (j : Int) + 1 < (ks.length : Int) := by omega
                    refine wp_region_still_tail 17 (by kernel_rfl) (by kernel_rfl) ?_
                    simp only [List.take_succ_cons, List.take_zero, List.drop_succ_cons, List.drop_zero]
                    iterate 4 with_reducible still_step
                    iterate 12 (with_reducible refine still_want (by kernel_rfl) (fun K hK => ?_); go_simp; with_reducible refine hK _ ?_; clear hK K)
                    with_reducible still_step
                    with_reducible refine wpStill_nil ?_
                    go_wp2_with (go_at_call 94; refine (want_any L p' (b' + key.size) bad7 _ _ HS7d.out.lk).mono ?_; rintro e w8 ⟨rfl, hl8, hg8⟩)
                    go_meet
                    exact ⟨_, HS7d.out.step hl8 hg8 (by omega) hL, fun hq => by simp at hq; exact ⟨hq.1, fun _ _ => by have := hq.2 (by omega); simpa using this⟩⟩
                case rest =>
                  obtain ⟨bad8, hs8, hq8⟩ := hcut
                  have HS8 := Lib.hid hs8
                  have HQ8 := Lib.hid hq8
                  clear hs8 hq8 j4 j5 j0
                  obtain ⟨eb, eo, c0, c1, c2, c3, c4, c5, rfl, e0, e1, e2, e3, e4, e5, hre⟩ := hr2.out.get i hltv
                  simp only [Nat.zero_add] at e0 e1 e2 e3 e4 e5
                  have HRE := Lib.hid hre
                  have hbw := HS8.out.below
                  have hev := cell_lt e0
                  have f0 := (hbw.cell (p := ⟨eb, _, none⟩) hev).trans e0
                  have f1 := (hbw.cell (p := ⟨eb, _, none⟩) hev).trans e1
                  have f2 := (hbw.cell (p := ⟨eb, _, none⟩) hev).trans e2
                  have f3 := (hbw.cell (p := ⟨eb, _, none⟩) hev).trans e3
                  have f4 := (hbw.cell (p := ⟨eb, _, none⟩) hev).trans e4
                  have f5 := (hbw.cell (p := ⟨eb, _, none⟩) hev).trans e5
                  clear e0 e1 e2 e3 e4 e5 hre hbw
                  have m5 : wc.cell? ⟨w.heap.size, 5, none⟩ = some (.slice (some ⟨eb, eo, none⟩) vs.length cv) := by rw [HS8.out.cell, HCS.out]; rfl
                  have hnn : vs[i].nodes ≤ n := by have := HN.out; unfold RV.nodes at this; have := RV.nodes_le hltv; unfold RV.nodes; unfold RV.nodes at this; omega
                  have hdd := (HQ1.out trivial).2.2.2
                  have HC := Lib.hid (HIH.out vs[i] (.agg #[c0, c1, c2, c3, c4, c5]) p' (b' + key.size) (deep + 1) bad8 wc hnn HS8.out.below HS8.out.lk HRE.out HR.out.p0 hok.out.2.1 (by have := HR.out.b0; omega) (by have := hok.out.2.2.1; unfold reachN at hks; omega) (fun hq => (HQ7.out (HQ8.out hq).1).2.1) (by omega) (by omega))
                  clear hnn
                  go_wp2_with (go_at_call 47; refine HC.out.mono ?_; intro e w9 hv; obtain ⟨p9, b9, bad9, rfl, hl9, hg9, v0, v1, v2, v3, vq⟩ := hv; have HS9 := Lib.hid (HS8.out.step hl9 hg9 (by omega) hL); have HVQ := Lib.hid vq; clear hl9 hg9 vq)
                  go_roundg (ks.length - (i + 1))
                  case measure => omega
                  case rel =>
                    refine ⟨i + 1, p9, b9, bad9, by go_num, by omega, rfl, ?_⟩
                    exact KeySt.step HR.out HS9.out hlt hltv HKEY.out (fun e => (HQ7.out e).2) HQ8.out v0 v1 v2 v3 HVQ.out
              · go_wp2_with fail
                refine bodyPost_end (results_none rfl _ _ _) rfl ?_
                exact KeySt.post (bad1 := false) HR.out (by omega) trivial HF1.out HF2.out HS6.out HQ4.out (fun _ => ⟨(HQ1.out trivial).1, (HQ1.out trivial).2.1, (HQ1.out trivial).2.2.1⟩) rfl
            · by_cases hlt : i < ks.length
              · go_wp2_with fail
                refine bodyPost_end (results_none rfl _ _ _) rfl ?_
                exact KeySt.postBad HR.out
              · go_wp2_with fail
                refine bodyPost_end (results_none rfl _ _ _) rfl ?_
                exact KeySt.postBad HR.out
  · refine bodyPost_ret (results_none rfl _ _ _) rfl ?_
    exact ⟨p + 1, b, true, rfl, hl1, gb_trans (gb_alloc (World.grownBy.refl w _) _) hg1, by omega, by omega, by omega, by omega, fun hq => by cases hq⟩
end Go.Proofs.YtjpcdbopioblaaaGreatDoor
