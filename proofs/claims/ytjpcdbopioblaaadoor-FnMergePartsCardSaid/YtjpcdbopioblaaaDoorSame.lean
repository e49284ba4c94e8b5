/- The reference's order walked: it says 0 of good values exactly if they are equal. -/
import Derived.Test.YtjpcdbopioblaaaDoorLook
import Derived.Test.YtjpcdbopioblaaaDoorMapPlain
import Derived.Test.YtjpcdbopioblaaaDoorOpen
namespace Go.Proofs.YtjpcdbopioblaaaDoor
open Go.RowKit

def signOf (n : Int) : Int := if n < 0 then -1 else if 0 < n then 1 else 0
theorem signOf_range (n : Int) : -1 ≤ signOf n ∧ signOf n ≤ 1 ∧ (signOf n = 0 ↔ n = 0) := by unfold signOf; split <;> (try split) <;> omega

set_option maxRecDepth 100000 in
theorem sign_any (n : Int) (w : World) : Calls Tryd.prog 70 #[.int .i64 n] w fun e w' => e = .returned (.int .i64 (signOf n)) ∧ w' = w := by
  by_cases h1 : n < 0
  · have hs : signOf n = -1 := if_pos h1
    go_enter Tryd.func70, Tryd.ntmps70
    go_wp2_with fail
    go_ret
    first | exact ⟨rfl, rfl⟩ | exact ⟨by rw [hs]; rfl, rfl⟩
  · by_cases h2 : 0 < n
    · have hs : signOf n = 1 := by unfold signOf; rw [if_neg h1, if_pos h2]
      go_enter Tryd.func70, Tryd.ntmps70
      go_wp2_with fail
      go_ret
      first | exact ⟨rfl, rfl⟩ | exact ⟨by rw [hs]; rfl, rfl⟩
    · have hs : signOf n = 0 := by unfold signOf; rw [if_neg h1, if_neg h2]
      go_enter Tryd.func70, Tryd.ntmps70
      go_wp2_with fail
      go_ret
      first | exact ⟨rfl, rfl⟩ | exact ⟨by rw [hs]; rfl, rfl⟩

theorem ba_ext {a b : ByteArray} (h : a.toList = b.toList) : a = b := by
  rw [ByteArray.toList_eq, ByteArray.toList_eq] at h
  exact ByteArray.ext (Array.toList_inj.1 h)

set_option maxRecDepth 100000 in
theorem texts_any (a b : ByteArray) (w : World) : Calls Tryd.prog 71 #[.string a, .string b] w fun e w' => (∃ c : Int, e = .returned (.int .i64 c) ∧ -1 ≤ c ∧ c ≤ 1 ∧ (c = 0 ↔ a = b)) ∧ w' = w := by
  by_cases h1 : Op.bytesLess a.toList b.toList = true
  · have hne : a ≠ b := by
      rintro rfl
      rw [ByteArray.toList_eq, less_irrefl] at h1
      cases h1
    go_enter Tryd.func71, Tryd.ntmps71
    go_wp2_with fail
    go_ret
    exact ⟨⟨-1, rfl, by omega, by omega, ⟨fun e => by omega, fun e => absurd e hne⟩⟩, rfl⟩
  · have h1' : Op.bytesLess a.toList b.toList = false := by simpa using h1
    by_cases h2 : a = b
    · subst h2
      have h2' : (a.toList == a.toList) = true := by simp
      go_enter Tryd.func71, Tryd.ntmps71
      go_wp2_with fail
      go_ret
      exact ⟨⟨0, rfl, by omega, by omega, by simp⟩, rfl⟩
    · have h2' : (a.toList == b.toList) = false := by
        rw [Bool.eq_false_iff]
        intro e
        exact h2 (ba_ext (by simpa using e))
      go_enter Tryd.func71, Tryd.ntmps71
      go_wp2_with fail
      go_ret
      exact ⟨⟨1, rfl, by omega, by omega, ⟨fun e => by omega, fun e => absurd e h2⟩⟩, rfl⟩

theorem take_eq_end {α : Type} {a b : List α} {i : Nat} (h : a.take i = b.take i) (hi : i ≤ a.length ∧ i ≤ b.length) (he : ¬ (i < a.length ∧ i < b.length)) : ((a.length : Int) - (b.length : Int) = 0 ↔ a = b) := by
  constructor
  · intro e
    have e1 : a.length = i := by omega
    have e2 : b.length = i := by omega
    rw [← List.take_length (l := a), ← List.take_length (l := b), e1, e2, h]
  · rintro rfl; omega
theorem take_succ_eq {α : Type} {a b : List α} {i : Nat} (h : a.take i = b.take i) (h1 : i < a.length) (h2 : i < b.length) (e : a[i] = b[i]) : a.take (i + 1) = b.take (i + 1) := by
  rw [← List.take_append_getElem h1, ← List.take_append_getElem h2, h, e]

set_option maxRecDepth 100000 in
set_option maxHeartbeats 1600000 in
theorem keys_any (a b : Option Addr) (ca cb : Nat) (l l' : List ByteArray) (w : World) (hl : l.length ≤ reachN) (hl' : l'.length ≤ reachN) (h1 : KeysAt w a 0 l) (h2 : KeysAt w b 0 l') :
    Calls Tryd.prog 73 #[.slice a l.length ca, .slice b l'.length cb] w fun e w' => (∃ c : Int, e = .returned (.int .i64 c) ∧ -reachN ≤ c ∧ c ≤ reachN ∧ (c = 0 ↔ l = l')) ∧ Below w.heap.size w w' := by
  have H1 := Lib.hid h1
  have H2 := Lib.hid h2
  clear h1 h2
  unfold reachN at hl hl' ⊢
  go_enter Tryd.func73, Tryd.ntmps73
  go_wp2_with fail
  go_loopg [5] (l.length) (fun gk s5 wr => ∃ i : Nat, s5 = .int .i64 i ∧ i ≤ l.length ∧ i ≤ l'.length ∧ gk = l.length - i ∧ Hid (l.take i = l'.take i ∧ Below w.heap.size w wr))
  case atStart => exact ⟨0, rfl, Nat.zero_le _, Nat.zero_le _, rfl, Lib.hid ⟨by simp, Below.refl _ _⟩⟩
  case round =>
    obtain ⟨i, rfl, hi, hi', rfl, HR⟩ := hrel
    by_cases hlt : i < l.length
    · by_cases hlt' : i < l'.length
      · obtain ⟨ab, ao, rfl, -, ga⟩ := (H1.out.below HR.out.2).get i hlt
        obtain ⟨bb, bo, rfl, -, gb⟩ := (H2.out.below HR.out.2).get i hlt'
        simp only [Nat.zero_add] at ga gb
        have hj1 : (i : Int) < (l.length : Int) := by omega
        have hj2 : (i : Int) < (l'.length : Int) := by omega
        have HS := Lib.hid HR.out.2.drew
        clear hi hi'
        go_wp2_with fail
        refine wp_region_still_tail 8 (by kernel_rfl) (by kernel_rfl) ?_
        simp only [List.take_succ_cons, List.take_zero, List.drop_succ_cons, List.drop_zero]
        iterate 8 with_reducible still_step
        with_reducible refine wpStill_nil ?_
        change wpList _ _ _ _ _ (World.drew wr)
        generalize wr.drew = w2 at HS ⊢
        go_wp2_with (go_at_call 71; refine (texts_any _ _ _).mono ?_; rintro e w3 ⟨⟨c, rfl, hc1, hc2, hc⟩, rfl⟩; have HC := Lib.hid hc; clear hc; by_cases h0 : c = 0)
        · subst h0
          have hkey := HC.out.1 rfl
          go_wp2_with fail
          go_roundg (l.length - (i + 1))
          case measure => omega
          case rel => exact ⟨i + 1, by go_num, by omega, by omega, rfl, Lib.hid ⟨take_succ_eq HR.out.1 hlt hlt' hkey, HS.out⟩⟩
        · go_wp2_with fail
          go_ret
          exact ⟨⟨c, rfl, by omega, by omega, ⟨fun e => absurd e h0, fun e => by subst e; exact absurd (HC.out.2 rfl) h0⟩⟩, HS.out⟩
      · go_wp2_with fail
        go_ret
        exact ⟨⟨_, rfl, by omega, by omega, take_eq_end HR.out.1 ⟨hi, hi'⟩ (by omega)⟩, HR.out.2⟩
    · go_wp2_with fail
      go_ret
      exact ⟨⟨_, rfl, by omega, by omega, take_eq_end HR.out.1 ⟨hi, hi'⟩ (by omega)⟩, HR.out.2⟩

/-- What the order says of two good values. -/
def CmpPost (x y : RV) (w : World) (e : Ending) (w' : World) : Prop := (∃ c : Int, e = .returned (.int .i64 c) ∧ -1 ≤ c ∧ c ≤ 1 ∧ (c = 0 ↔ x = y)) ∧ Below w.heap.size w w'

def CmpIH (n : Nat) : Prop := ∀ (x y : RV) (va vb : Value) (w : World), x.nodes ≤ n → x.Good → y.Good → x.Rep w va → y.Rep w vb → Calls Tryd.prog 44 #[va, vb] w (CmpPost x y w)

set_option maxRecDepth 100000 in
set_option maxHeartbeats 1600000 in
theorem lists_any (n : Nat) (ih : CmpIH n) (a b : Option Addr) (ca cb : Nat) (l l' : List RV) (w : World) (hn : RV.nodesL l ≤ n) (hg : RV.GoodL l) (hg' : RV.GoodL l') (hl : l.length ≤ reachN) (hl' : l'.length ≤ reachN)
    (h1 : RV.RepL w a 0 l) (h2 : RV.RepL w b 0 l') :
    Calls Tryd.prog 72 #[.slice a l.length ca, .slice b l'.length cb] w fun e w' => (∃ c : Int, e = .returned (.int .i64 c) ∧ -reachN ≤ c ∧ c ≤ reachN ∧ (c = 0 ↔ l = l')) ∧ Below w.heap.size w w' := by
  have H1 := Lib.hid h1
  have H2 := Lib.hid h2
  have HG := Lib.hid (And.intro hg hg')
  have HN := Lib.hid hn
  have HIH := Lib.hid ih
  clear h1 h2 hg hg' hn ih
  unfold reachN at hl hl' ⊢
  go_enter Tryd.func72, Tryd.ntmps72
  go_wp2_with fail
  go_loopg [5] (l.length) (fun gk s5 wr => ∃ i : Nat, s5 = .int .i64 i ∧ i ≤ l.length ∧ i ≤ l'.length ∧ gk = l.length - i ∧ Hid (l.take i = l'.take i ∧ Below w.heap.size w wr))
  case atStart => exact ⟨0, rfl, Nat.zero_le _, Nat.zero_le _, rfl, Lib.hid ⟨by simp, Below.refl _ _⟩⟩
  case round =>
    obtain ⟨i, rfl, hi, hi', rfl, HR⟩ := hrel
    by_cases hlt : i < l.length
    · by_cases hlt' : i < l'.length
      · obtain ⟨ab, ao, x0, x1, x2, x3, x4, x5, rfl, ga0, ga1, ga2, ga3, ga4, ga5, hra⟩ := (H1.out.below HR.out.2).get i hlt
        obtain ⟨bb, bo, y0, y1, y2, y3, y4, y5, rfl, gb0, gb1, gb2, gb3, gb4, gb5, hrb⟩ := (H2.out.below HR.out.2).get i hlt'
        simp only [Nat.zero_add] at ga0 ga1 ga2 ga3 ga4 ga5 gb0 gb1 gb2 gb3 gb4 gb5
        have hj1 : (i : Int) < (l.length : Int) := by omega
        have hj2 : (i : Int) < (l'.length : Int) := by omega
        have HS := Lib.hid HR.out.2.drew
        have HRA := Lib.hid (hra.below (Below.refl _ wr).drew)
        have HRB := Lib.hid (hrb.below (Below.refl _ wr).drew)
        clear hi hi' hra hrb
        go_wp2_with fail
        refine wp_region_still_tail 8 (by kernel_rfl) (by kernel_rfl) ?_
        simp only [List.take_succ_cons, List.take_zero, List.drop_succ_cons, List.drop_zero]
        iterate 8 with_reducible still_step
        with_reducible refine wpStill_nil ?_
        change wpList _ _ _ _ _ (World.drew wr)
        generalize wr.drew = w2 at HS HRA HRB ⊢
        go_wp2_with (go_at_call 44; refine (HIH.out l[i] l'[i] _ _ _ (by have := RV.nodes_le hlt; have := HN.out; omega) (HG.out.1.get i hlt) (HG.out.2.get i hlt') HRA.out HRB.out).mono ?_; rintro e w3 ⟨⟨c, rfl, hc1, hc2, hc⟩, hb3⟩; have HB3 := Lib.hid (HS.out.trans (hb3.mono HS.out.size)); have HC := Lib.hid hc; clear hc hb3; by_cases h0 : c = 0)
        · subst h0
          have hkey := HC.out.1 rfl
          go_wp2_with fail
          go_roundg (l.length - (i + 1))
          case measure => omega
          case rel => exact ⟨i + 1, by go_num, by omega, by omega, rfl, Lib.hid ⟨take_succ_eq HR.out.1 hlt hlt' hkey, HB3.out⟩⟩
        · go_wp2_with fail
          go_ret
          exact ⟨⟨c, rfl, by omega, by omega, ⟨fun e => absurd e h0, fun e => by subst e; exact absurd (HC.out.2 rfl) h0⟩⟩, HB3.out⟩
      · go_wp2_with fail
        go_ret
        exact ⟨⟨_, rfl, by omega, by omega, take_eq_end HR.out.1 ⟨hi, hi'⟩ (by omega)⟩, HR.out.2⟩
    · go_wp2_with fail
      go_ret
      exact ⟨⟨_, rfl, by omega, by omega, take_eq_end HR.out.1 ⟨hi, hi'⟩ (by omega)⟩, HR.out.2⟩

theorem RV.Good.rest {k h : Int} {t : ByteArray} {l : List RV} {ks : List ByteArray} {vs : List RV} (g : (RV.mk k h t l ks vs).Good) :
    (k ≠ 3 → h = 0) ∧ (k ≠ 4 → t = ByteArray.empty) ∧ (k ≠ 5 → l = []) ∧ (k ≠ 6 → ks = [] ∧ vs = []) ∧ 0 ≤ k ∧ k ≤ 6 ∧ -18014398509481984 ≤ h ∧ h ≤ 18014398509481984 ∧ RV.GoodL l ∧ RV.GoodL vs := by
  unfold RV.Good at g
  obtain ⟨g1, g2, g3, g4, g5, g6, g7, g8, g9, g10, g11, g12, g13, g14, g15⟩ := g
  refine ⟨fun e => g3.resolve_left e, fun e => g4.resolve_left e, fun e => g5.resolve_left e, fun e => ?_, g1, g2, g8, g9, g12, g15⟩
  have := g6.resolve_left e
  subst this
  exact ⟨rfl, List.eq_nil_of_length_eq_zero g7.symm⟩

set_option maxRecDepth 100000 in
set_option maxHeartbeats 4000000 in
theorem cmp_all : ∀ n, CmpIH n := by
  intro n
  induction n with
  | zero => intro x y va vb w hn; have := RV.nodes_pos x; omega
  | succ n ih =>
    intro x y va vb w hn hg hg' hx hy
    obtain ⟨k, h, t, l, ks, vs⟩ := x
    obtain ⟨k', h', t', l', ks', vs'⟩ := y
    have hnl : RV.nodesL l ≤ n := by unfold RV.nodes at hn; omega
    have hnv : RV.nodesL vs ≤ n := by unfold RV.nodes at hn; omega
    unfold RV.Rep at hx hy
    obtain ⟨al, cl, ak, ck, av, cv, rfl, -, -, -, hll, hlk, hlv, hrl, hrk, hrv⟩ := hx
    obtain ⟨al', cl', ak', ck', av', cv', rfl, -, -, -, hll', hlk', hlv', hrl', hrk', hrv'⟩ := hy
    obtain ⟨r3, r4, r5, r6, hk0, hk6, hh0, hh1, gl, gv⟩ := hg.rest
    obtain ⟨r3', r4', r5', r6', hk0', hk6', hh0', hh1', gl', gv'⟩ := hg'.rest
    have HL := Lib.hid (And.intro hrl hrl')
    have HK := Lib.hid (And.intro hrk hrk')
    have HV := Lib.hid (And.intro hrv hrv')
    have HGL := Lib.hid (And.intro gl gl')
    have HGV := Lib.hid (And.intro gv gv')
    have HR := Lib.hid (And.intro (And.intro r3 (And.intro r4 (And.intro r5 r6))) (And.intro r3' (And.intro r4' (And.intro r5' r6'))))
    have HN := Lib.hid (And.intro hnl hnv)
    have HIH := Lib.hid ih
    have HLEN := Lib.hid (And.intro (And.intro hll hll') (And.intro (And.intro hlk hlk') (And.intro hlv hlv')))
    clear hrl hrl' hrk hrk' hrv hrv' gl gl' gv gv' r3 r3' r4 r4' r5 r5' r6 r6' hnl hnv hn ih hg hg' hll hll' hlk hlk' hlv hlv'
    unfold CmpPost
    have hB2 : ∀ a b : Obj, Below w.heap.size w ((w.alloc a).alloc b) := fun a b => ((Below.refl w.heap.size w).alloc (Nat.le_refl _) a).alloc (by simp) b
    have HB2 := Lib.hid hB2
    clear hB2
    by_cases hk : k = k'
    · subst hk
      by_cases k3 : k = 3
      · subst k3
        go_enter Tryd.func44, Tryd.ntmps44
        go_wp2_with (go_at_call 70; refine (sign_any _ _).mono ?_; rintro e w3 ⟨rfl, rfl⟩)
        go_ret
        have hs := signOf_range (h - h')
        refine ⟨⟨_, rfl, hs.1, hs.2.1, hs.2.2.trans ⟨fun e => ?_, fun e => by injection e; omega⟩⟩, HB2.out _ _⟩
        obtain ⟨⟨-, a4, a5, a6⟩, ⟨-, b4, b5, b6⟩⟩ := HR.out
        have : h = h' := by omega
        subst this
        rw [a4 (by decide), b4 (by decide), a5 (by decide), b5 (by decide), (a6 (by decide)).1, (b6 (by decide)).1, (a6 (by decide)).2, (b6 (by decide)).2]
      · by_cases k4 : k = 4
        · subst k4
          go_enter Tryd.func44, Tryd.ntmps44
          go_wp2_with (go_at_call 71; refine (texts_any _ _ _).mono ?_; rintro e w3 ⟨⟨c, rfl, hc1, hc2, hc⟩, rfl⟩; have HC := Lib.hid hc; clear hc)
          go_ret
          refine ⟨⟨c, rfl, hc1, hc2, HC.out.trans ⟨fun e => ?_, fun e => by injection e⟩⟩, HB2.out _ _⟩
          obtain ⟨⟨a3, -, a5, a6⟩, ⟨b3, -, b5, b6⟩⟩ := HR.out
          subst e
          rw [a3 (by decide), b3 (by decide), a5 (by decide), b5 (by decide), (a6 (by decide)).1, (b6 (by decide)).1, (a6 (by decide)).2, (b6 (by decide)).2]
        · by_cases k5 : k = 5
          · subst k5
            go_enter Tryd.func44, Tryd.ntmps44
            go_wp2_with (first | (go_at_call 72; refine (lists_any n HIH.out _ _ _ _ _ _ _ HN.out.1 HGL.out.1 HGL.out.2 HLEN.out.1.1 HLEN.out.1.2 (HL.out.1.below (HB2.out _ _)) (HL.out.2.below (HB2.out _ _))).mono ?_; rintro e w3 ⟨⟨c, rfl, hc1, hc2, hc⟩, hb3⟩; unfold reachN at hc1 hc2; have HC := Lib.hid hc; have HB3 := Lib.hid ((HB2.out _ _).trans (hb3.mono (by simp; omega))); clear hc hb3) | (go_at_call 70; refine (sign_any _ _).mono ?_; rintro e w4 ⟨rfl, rfl⟩))
            go_ret
            have hs := signOf_range c
            refine ⟨⟨_, rfl, hs.1, hs.2.1, (hs.2.2.trans HC.out).trans ⟨fun e => ?_, fun e => by injection e⟩⟩, HB3.out⟩
            obtain ⟨⟨a3, a4, -, a6⟩, ⟨b3, b4, -, b6⟩⟩ := HR.out
            subst e
            rw [a3 (by decide), b3 (by decide), a4 (by decide), b4 (by decide), (a6 (by decide)).1, (b6 (by decide)).1, (a6 (by decide)).2, (b6 (by decide)).2]
          · by_cases k6 : k = 6
            · subst k6
              go_enter Tryd.func44, Tryd.ntmps44
              go_wp2_with fail
              refine (keys_any _ _ _ _ _ _ _ HLEN.out.2.1.1 HLEN.out.2.1.2 (HK.out.1.below (HB2.out _ _)) (HK.out.2.below (HB2.out _ _))).mono ?_
              rintro e w3 ⟨⟨c, rfl, hc1, hc2, hc⟩, hb3⟩
              unfold reachN at hc1 hc2
              have HC := Lib.hid hc
              have HB3 := Lib.hid ((HB2.out _ _).trans (hb3.mono (by simp; omega)))
              obtain ⟨hcell, -⟩ := bcell hb3
              clear hc hb3
              by_cases h0 : c = 0
              · subst h0
                have E2 := Lib.hid (HC.out.1 rfl)
                clear HC
                go_wp2_with (first | (go_at_call 72; refine (lists_any n HIH.out _ _ _ _ _ _ _ HN.out.2 HGV.out.1 HGV.out.2 HLEN.out.2.2.1 HLEN.out.2.2.2 (HV.out.1.below HB3.out) (HV.out.2.below HB3.out)).mono ?_; rintro e w4 ⟨⟨c, rfl, hc1, hc2, hc⟩, hb4⟩; unfold reachN at hc1 hc2; have HC4 := Lib.hid hc; have HB4 := Lib.hid (HB3.out.trans (hb4.mono HB3.out.size)); clear hc hb4) | (go_at_call 70; refine (sign_any _ _).mono ?_; rintro e w5 ⟨rfl, rfl⟩))
                go_ret
                have hs := signOf_range c
                refine ⟨⟨_, rfl, hs.1, hs.2.1, (hs.2.2.trans HC4.out).trans ⟨fun e => ?_, fun e => by injection e⟩⟩, HB4.out⟩
                obtain ⟨⟨a3, a4, a5, -⟩, ⟨b3, b4, b5, -⟩⟩ := HR.out
                have e2 := E2.out
                subst e
                subst e2
                rw [a3 (by decide), b3 (by decide), a4 (by decide), b4 (by decide), a5 (by decide), b5 (by decide)]
              · go_wp2_with (go_at_call 70; refine (sign_any _ _).mono ?_; rintro e w5 ⟨rfl, rfl⟩)
                go_ret
                have hs := signOf_range c
                refine ⟨⟨_, rfl, hs.1, hs.2.1, (hs.2.2.trans HC.out).trans ⟨fun e => ?_, fun e => by injection e⟩⟩, HB3.out⟩
                exact absurd (HC.out.2 e) h0
            · go_enter Tryd.func44, Tryd.ntmps44
              go_wp2_with fail
              go_ret
              refine ⟨⟨0, rfl, by omega, by omega, ⟨fun _ => ?_, fun _ => rfl⟩⟩, HB2.out _ _⟩
              obtain ⟨⟨a3, a4, a5, a6⟩, ⟨b3, b4, b5, b6⟩⟩ := HR.out
              rw [a3 k3, b3 k3, a4 k4, b4 k4, a5 k5, b5 k5, (a6 k6).1, (b6 k6).1, (a6 k6).2, (b6 k6).2]
    · go_enter Tryd.func44, Tryd.ntmps44
      go_wp2_with (go_at_call 70; refine (sign_any _ _).mono ?_; rintro e w3 ⟨rfl, rfl⟩)
      go_ret
      have hs := signOf_range (k - k')
      exact ⟨⟨_, rfl, hs.1, hs.2.1, hs.2.2.trans ⟨fun e => by omega, fun e => by injection e; omega⟩⟩, HB2.out _ _⟩

set_option maxRecDepth 100000 in
theorem same_any (x y : RV) (va vb : Value) (w : World) (hg : x.Good) (hg' : y.Good) (hx : x.Rep w va) (hy : y.Rep w vb) :
    Calls Tryd.prog 17 #[va, vb] w fun e w' => (∃ b, e = .returned (.bool b) ∧ (b = true ↔ x = y)) ∧ Below w.heap.size w w' := by
  have hB2 : ∀ a b : Obj, Below w.heap.size w ((w.alloc a).alloc b) := fun a b => ((Below.refl w.heap.size w).alloc (Nat.le_refl _) a).alloc (by simp) b
  have hC := fun (wx : World) (hb : Below w.heap.size w wx) => cmp_all x.nodes x y va vb wx (Nat.le_refl _) hg hg' (hx.below hb) (hy.below hb)
  obtain ⟨k, h, t, l, ks, vs⟩ := x
  obtain ⟨k', h', t', l', ks', vs'⟩ := y
  unfold RV.Rep at hx hy
  obtain ⟨al, cl, ak, ck, av, cv, rfl, -, -, -, hll, hlk, hlv, hrl, hrk, hrv⟩ := hx
  obtain ⟨al', cl', ak', ck', av', cv', rfl, -, -, -, hll', hlk', hlv', hrl', hrk', hrv'⟩ := hy
  clear hrl hrl' hrk hrk' hrv hrv' hg hg' hll hll' hlk hlk' hlv hlv'
  have HB2 := Lib.hid hB2
  have HC := Lib.hid hC
  clear hB2 hC
  go_enter Tryd.func17, Tryd.ntmps17
  go_wp2_with (go_at_call 44; refine (HC.out _ (HB2.out _ _)).mono ?_; rintro e w3 ⟨⟨c, rfl, hc1, hc2, hc⟩, hb3⟩; have HD := Lib.hid hc; have HB3 := Lib.hid ((HB2.out _ _).trans (hb3.mono (by simp; omega))); clear hc hb3)
  go_ret
  exact ⟨⟨_, rfl, by simpa using HD.out⟩, HB3.out⟩
end Go.Proofs.YtjpcdbopioblaaaDoor
