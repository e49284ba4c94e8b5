/- FnRTrimStr walked: a string without another one at its end. -/
import Derived.Test.YtjpcdbopioblaaaDoorFromGo0
namespace Go.Proofs.YtjpcdbopioblaaaDoor
open Go.RowKit

/-- A string's tree. -/
def strT (t : ByteArray) : RV := .mk 4 0 t [] [] []

def cutEnd (s t : ByteArray) : ByteArray := if Lib.hasSuffix s.data.toList t.data.toList = true then s.extract 0 (s.size - t.size) else s

theorem cutEnd_is (s t : ByteArray) : (⟨(Lib.trimSuffix s.data.toList t.data.toList).toArray⟩ : ByteArray) = cutEnd s t := by
  unfold cutEnd Lib.trimSuffix
  split
  · refine ByteArray.ext ?_
    rw [ByteArray.data_extract]
    refine Array.toList_inj.1 ?_
    simp
  · rfl

theorem suffix_iff (s t : ByteArray) (_ : t.size ≤ s.size) : s.extract (s.size - t.size) s.size = t ↔ Lib.hasSuffix s.data.toList t.data.toList = true := by
  unfold Lib.hasSuffix
  rw [List.isSuffixOf_iff_suffix, List.suffix_iff_eq_drop]
  have e : (s.extract (s.size - t.size) s.size).data.toList = s.data.toList.drop (s.data.toList.length - t.data.toList.length) := by
    rw [ByteArray.data_extract]
    simp only [Array.toList_extract, List.extract]
    rw [List.take_of_length_le (by simp)]
    simp
  constructor
  · intro hh; rw [← e, hh]
  · intro hh
    refine ByteArray.ext (Array.toList_inj.1 ?_)
    rw [e, ← hh]

theorem not_suffix (s t : ByteArray) (h : ¬ t.size ≤ s.size) : Lib.hasSuffix s.data.toList t.data.toList = false := by
  rw [Bool.eq_false_iff]
  intro hh
  unfold Lib.hasSuffix at hh
  have := (List.isSuffixOf_iff_suffix.1 hh).length_le
  rw [← Lib.size_eq, ← Lib.size_eq] at this
  exact h this

theorem beq_toList (a b : ByteArray) : (a.toList == b.toList) = true ↔ a = b := ⟨fun h => ba_ext (by simpa using h), fun h => by subst h; simp⟩

set_option maxRecDepth 100000 in
set_option maxHeartbeats 800000 in
theorem ends_any (s t : ByteArray) (w : World) (hs : s.size ≤ reachN) (ht : t.size ≤ reachN) :
    Calls Tryd.prog 55 #[.string s, .string t] w fun e w' => e = .returned (.bool (Lib.hasSuffix s.data.toList t.data.toList)) ∧ w' = w := by
  unfold reachN at hs ht
  by_cases h : t.size ≤ s.size
  · have hi := suffix_iff s t h
    have hw : IntKind.i64.wrap ((s.size : Int) - (t.size : Int)) = (s.size : Int) - (t.size : Int) := IntWalk.i64_in _ (by omega)
    have h1 : (0 : Int) ≤ (s.size : Int) - (t.size : Int) := by omega
    have h2 : (s.size : Int) - (t.size : Int) ≤ (s.size : Int) := by omega
    have h3 : ((s.size : Int) - (t.size : Int)).toNat = s.size - t.size := by omega
    go_enter Tryd.func55, Tryd.ntmps55
    go_wp2_with fail
    go_ret
    refine ⟨?_, rfl⟩
    have e : ((s.extract (s.size - t.size) s.size).toList == t.toList) = Lib.hasSuffix s.data.toList t.data.toList := by
      rw [Bool.eq_iff_iff, beq_toList]; exact hi
    rw [← e]
    rfl
  · have hn := not_suffix s t h
    have HN := Lib.hid hn
    go_enter Tryd.func55, Tryd.ntmps55
    go_wp2_with fail
    go_ret
    rw [HN.out]
    exact ⟨rfl, rfl⟩

set_option maxRecDepth 100000 in
set_option maxHeartbeats 800000 in
theorem shortened_any (s t : ByteArray) (w : World) (hs : s.size ≤ reachN) (ht : t.size ≤ reachN) :
    Calls Tryd.prog 32 #[.string s, .string t, .bool false, .bool true] w fun e w' => e = .returned (.string (cutEnd s t)) ∧ w' = w := by
  have HE := Lib.hid (fun wx => ends_any s t wx hs ht)
  have hle : Lib.hasSuffix s.data.toList t.data.toList = true → t.size ≤ s.size := fun h => by
    rcases Nat.lt_or_ge s.size t.size with h' | h'
    · rw [not_suffix s t (by omega)] at h; cases h
    · exact h'
  unfold reachN at hs ht
  unfold cutEnd
  by_cases h : Lib.hasSuffix s.data.toList t.data.toList = true
  · have hl := hle h
    rw [h] at HE
    have hw : IntKind.i64.wrap ((s.size : Int) - (t.size : Int)) = (s.size : Int) - (t.size : Int) := IntWalk.i64_in _ (by omega)
    have h1 : (0 : Int) ≤ (s.size : Int) - (t.size : Int) := by omega
    have h2 : (s.size : Int) - (t.size : Int) ≤ (s.size : Int) := by omega
    have h3 : ((s.size : Int) - (t.size : Int)).toNat = s.size - t.size := by omega
    rw [if_pos h]
    clear h hle
    go_enter Tryd.func32, Tryd.ntmps32
    go_wp2_with (go_at_call 55; refine (HE.out _).mono ?_; rintro e w3 ⟨rfl, rfl⟩)
    go_ret
    exact ⟨rfl, rfl⟩
  · have h' : Lib.hasSuffix s.data.toList t.data.toList = false := by simpa using h
    rw [h'] at HE
    rw [if_neg h]
    clear h h' hle
    go_enter Tryd.func32, Tryd.ntmps32
    go_wp2_with (go_at_call 55; refine (HE.out _).mono ?_; rintro e w3 ⟨rfl, rfl⟩)
    go_ret
    exact ⟨rfl, rfl⟩

set_option maxRecDepth 100000 in
theorem str_c (s : ByteArray) (w : World) :
    Calls Tryd.prog 18 #[.string s] w fun e w' => e = .returned (.agg #[.int .i64 4, .int .i64 0, .string s, .slice none 0 0, .slice none 0 0, .slice none 0 0]) ∧ Below w.heap.size w w' := by
  have HB := Lib.hid (fun o => (Below.refl w.heap.size w).alloc (Nat.le_refl _) o)
  go_enter Tryd.func18, Tryd.ntmps18
  go_wp2_with fail
  refine bodyPost_ret (v := .agg #[.int .i64 4, .int .i64 0, .string s, .slice none 0 0, .slice none 0 0, .slice none 0 0]) (by rw [results_cell rfl]; go_simp) rfl ?_
  exact ⟨rfl, HB.out _⟩

set_option maxRecDepth 100000 in
theorem funcRtrimstr_any (s t : ByteArray) (w : World) (hs : s.size ≤ reachN) :
    Calls Tryd.prog 78 #[.iface 9 (.string s), .iface 9 (.string t)] w fun e w' => e = .returned (.iface 9 (.string (cutEnd s t))) ∧ w' = w := by
  have hT := fun wx => Go.Proofs.Tryd.strings_TrimSuffix s t wx (by unfold reachN at hs; omega)
  rw [cutEnd_is] at hT
  generalize cutEnd s t = r at hT ⊢
  have HT := Lib.hid hT
  clear hT
  have a_str := as_str_str
  go_enter Tryd.func78, Tryd.ntmps78
  go_wp2_with (go_at_call 91; refine (HT.out _).mono ?_; rintro e w3 ⟨rfl, rfl⟩)
  go_ret
  exact ⟨rfl, rfl⟩

set_option maxRecDepth 100000 in
theorem zzRTrimStr_any (s t : ByteArray) (w : World) (hs : s.size ≤ reachN) :
    Calls Tryd.prog 53 #[.iface 9 (.string s), .iface 9 (.string t)] w fun e w' => e = .returned (.iface 9 (.string (cutEnd s t))) ∧ w' = w := by
  have HN := Lib.hid (fun wx => funcRtrimstr_any s t wx hs)
  go_enter Tryd.func53, Tryd.ntmps53
  go_wp2_with (go_at_call 78; refine (HN.out _).mono ?_; rintro e w3 ⟨rfl, rfl⟩)
  go_ret
  exact ⟨rfl, rfl⟩

theorem strT_rep {t : ByteArray} {w : World} (ht : t.size ≤ reachN) : (strT t).Rep w (.agg #[.int .i64 4, .int .i64 0, .string t, .slice none 0 0, .slice none 0 0, .slice none 0 0]) :=
  rep_flat (by unfold I64; omega) (by unfold I64; omega) ht
theorem strT_good {t : ByteArray} (hv : Lib.validD t.data.toList = true) : (strT t).Good := by
  unfold strT RV.Good
  exact ⟨by decide, by decide, .inr rfl, .inl rfl, .inr rfl, .inr rfl, rfl, by decide, by decide, .inl rfl, hv, by unfold RV.GoodL; trivial, by simp, by intro i hi; simp at hi, by unfold RV.GoodL; trivial⟩

set_option maxRecDepth 100000 in
set_option maxHeartbeats 1600000 in
theorem implRTrimStr_any (s t : ByteArray) (w : World) (hs : s.size ≤ reachN) (ht : t.size ≤ reachN) (vs : Lib.validD s.data.toList = true) (vt : Lib.validD t.data.toList = true) :
    Calls Tryd.prog 31 #[.agg #[.int .i64 4, .int .i64 0, .string s, .slice none 0 0, .slice none 0 0, .slice none 0 0], .agg #[.int .i64 4, .int .i64 0, .string t, .slice none 0 0, .slice none 0 0, .slice none 0 0]] w (ResPost (strT (cutEnd s t)) w) := by
  have hn : ∀ t : ByteArray, (strT t).nodes ≤ 400 := fun t => by unfold strT RV.nodes RV.nodesL; decide
  have hT1 := fun wx => toGo_any 400 (Nat.le_refl _) (strT s) _ wx (hn s) (strT_good vs) (strT_rep hs)
  have hT2 := fun wx => toGo_any 400 (Nat.le_refl _) (strT t) _ wx (hn t) (strT_good vt) (strT_rep ht)
  have hN := fun wx => zzRTrimStr_any s t wx hs
  have hc : (cutEnd s t).size ≤ reachN := by
    unfold cutEnd
    split
    · have : (s.extract 0 (s.size - t.size)).size ≤ s.size := by simp
      omega
    · exact hs
  have hgo : ∀ wx, (strT (cutEnd s t)).Go wx 0 (.iface 9 (.string (cutEnd s t))) := fun wx => by unfold strT RV.Go; exact .inr (.inr (.inr (.inr (.inl ⟨rfl, rfl⟩))))
  have hR := fun wx => result_any (strT (cutEnd s t)) _ wx 0 (hgo wx) (fun w' _ => (fromGo_text (cutEnd s t) w').mono fun e w'' ⟨he, hb⟩ => ⟨_, he, fun _ _ => strT_rep hc, hb⟩)
  have hshape : ∀ (t : ByteArray) wx b x, (strT t).Go wx b x → x = .iface 9 (.string t) := fun t wx b x hx => by
    unfold strT RV.Go at hx
    rcases hx with ⟨e, _⟩ | ⟨e, _⟩ | ⟨e, _⟩ | ⟨e, _⟩ | ⟨_, e⟩ | ⟨e, _⟩ | ⟨e, _⟩
    all_goals first | exact e | exact absurd e (by decide)
  have HT1 := Lib.hid hT1
  have HT2 := Lib.hid hT2
  have HN := Lib.hid hN
  have HR := Lib.hid hR
  have HS := Lib.hid hshape
  have HB := Lib.hid (fun o o' o'' => (((Below.refl w.heap.size w).alloc (Nat.le_refl _) o).alloc (by simp) o').alloc (by simp; omega) o'')
  clear hn hT1 hT2 hN hc hgo hR hshape vs vt
  generalize strT (cutEnd s t) = T at HR ⊢
  generalize cutEnd s t = R at HN HR
  unfold ResPost
  go_enter Tryd.func31, Tryd.ntmps31
  go_wp2_with fail
  refine (HT1.out _).mono ?_
  rintro e w1 ⟨x, rfl, hx, hb1⟩
  obtain rfl := HS.out _ _ _ _ hx
  have HB1 := Lib.hid ((HB.out _ _ _).trans (hb1.mono (by simp; omega)))
  obtain ⟨hc1', hf1'⟩ := bcell hb1
  have hz1 := hb1.size
  simp at hz1
  clear hb1 hx
  have hy1 : w.heap.size + 2 < w1.heap.size := by omega
  have hy1b : w.heap.size + 1 < w1.heap.size := by omega
  have hc1 := fun o => hc1' (w.heap.size + 1 + 1) o (by simp)
  have hf1 := fun o => hf1' (w.heap.size + 1 + 1) o (by simp)
  have hd1 := fun o => hc1' (w.heap.size + 1) o (by simp)
  clear hc1' hf1'
  go_wp2_with fail
  refine (HT2.out _).mono ?_
  rintro e w2 ⟨x, rfl, hx, hb2⟩
  obtain rfl := HS.out _ _ _ _ hx
  have HB2 := Lib.hid (HB1.out.trans (hb2.mono HB1.out.size))
  obtain ⟨hc2', hf2'⟩ := bcell hb2
  have hz2 := hb2.size
  have hc2 := fun o => hc2' (w.heap.size + 1 + 1) o (by omega)
  have hf2 := fun o => hf2' (w.heap.size + 1 + 1) o (by omega)
  have hy2 : w.heap.size + 1 + 1 < w2.heap.size := by omega
  clear hc2' hf2' hb2 hx
  go_wp2_with (first | (go_at_call 53; refine (HN.out _).mono ?_; rintro e w2 ⟨rfl, rfl⟩) | (go_at_call 46; refine (HR.out _).mono ?_; rintro e w3 ⟨r, rfl, hr, hb3⟩; have hsh := hr.shape; have HRR := Lib.hid hr; have HB3 := Lib.hid (HB2.out.trans (hb3.mono HB2.out.size)); have HZ3 := Lib.hid hb3.size; obtain ⟨hc3', hf3'⟩ := bcell hb3; have hc3 := fun o => hc3' (w.heap.size + 1 + 1) o hy2; have hf3 := fun o => hf3' (w.heap.size + 1 + 1) o hy2; clear hc3' hf3' hb3 hr; obtain ⟨rk, rh, rt, ral, rn, rcl, rak, rm, rck, rav, rq, rcv, rfl⟩ := hsh))
  refine bodyPost_ret (v := .agg #[.int .i64 rk, .int .i64 rh, .string rt, .slice ral rn rcl, .slice rak rm rck, .slice rav rq rcv, .int .i64 0]) (by rw [results_cell rfl]; go_simp) rfl ?_
  have fin : ∀ wx, w3.grownBy wx (some (w.heap.size + 1 + 1)) → (∃ r, Ending.returned (.agg #[.int .i64 rk, .int .i64 rh, .string rt, .slice ral rn rcl, .slice rak rm rck, .slice rav rq rcv, .int .i64 0]) = Ending.returned r ∧ ResHere w.heap.size T wx r ∧ Below w.heap.size w wx) := fun wx hgb => by
    refine ⟨_, rfl, fun wy hx => HRR.out wy fun kk hb hk => ?_, below_gb HB3.out hgb HB3.out.size (by omega)⟩
    exact (hx kk (by omega) (Nat.lt_of_lt_of_le hk hgb.size)).trans (hgb.block kk hk (fun e => by injection e; omega))
  with_reducible refine fin _ ?_
  repeat' (with_reducible first | exact World.grownBy.refl _ _ | refine gb_alloc ?_ _ | refine gb_set ?_ _ _)

set_option maxRecDepth 100000 in
/-- Two strings that are one string are the same. -/
theorem cmp_text (t : ByteArray) (al ak av bl bk bv : Option Addr) (an ac m ck q cv bn bc bm ek bq ev : Nat) (w : World) :
    Calls Tryd.prog 44 #[.agg #[.int .i64 4, .int .i64 0, .string t, .slice al an ac, .slice ak m ck, .slice av q cv], .agg #[.int .i64 4, .int .i64 0, .string t, .slice bl bn bc, .slice bk bm ek, .slice bv bq ev]] w fun e w' => e = .returned (.int .i64 0) ∧ Below w.heap.size w w' := by
  have HB := Lib.hid (fun o o' => ((Below.refl w.heap.size w).alloc (Nat.le_refl _) o).alloc (by simp) o')
  have hT : ∀ wx, Calls Tryd.prog 71 #[.string t, .string t] wx fun e w' => e = .returned (.int .i64 0) ∧ w' = wx := fun wx => (texts_any t t wx).mono fun e w' ⟨⟨c, he, _, _, hc⟩, hw⟩ => ⟨by rw [he, hc.2 rfl], hw⟩
  have HT := Lib.hid hT
  clear hT
  go_enter Tryd.func44, Tryd.ntmps44
  go_wp2_with (go_at_call 71; refine (HT.out _).mono ?_; rintro e w3 ⟨rfl, rfl⟩)
  go_ret
  exact ⟨rfl, HB.out _ _⟩

set_option maxRecDepth 100000 in
theorem same_text (t : ByteArray) (al ak av bl bk bv : Option Addr) (an ac m ck q cv bn bc bm ek bq ev : Nat) (w : World) :
    Calls Tryd.prog 17 #[.agg #[.int .i64 4, .int .i64 0, .string t, .slice al an ac, .slice ak m ck, .slice av q cv], .agg #[.int .i64 4, .int .i64 0, .string t, .slice bl bn bc, .slice bk bm ek, .slice bv bq ev]] w fun e w' => e = .returned (.bool true) ∧ Below w.heap.size w w' := by
  have HB := Lib.hid (fun o o' => ((Below.refl w.heap.size w).alloc (Nat.le_refl _) o).alloc (by simp) o')
  have HC := Lib.hid (fun wx => cmp_text t al ak av bl bk bv an ac m ck q cv bn bc bm ek bq ev wx)
  go_enter Tryd.func17, Tryd.ntmps17
  go_wp2_with (go_at_call 44; refine (HC.out _).mono ?_; rintro e w3 ⟨rfl, hb3⟩; have HB3 := Lib.hid ((HB.out _ _).trans (hb3.mono (by simp; omega))); clear hb3)
  go_ret
  exact ⟨rfl, HB3.out⟩

set_option maxRecDepth 100000 in
theorem says_text (t : ByteArray) (al ak av bl bk bv : Option Addr) (an ac m ck q cv bn bc bm ek bq ev : Nat) (w : World) :
    Calls Tryd.prog 30 #[.agg #[.int .i64 4, .int .i64 0, .string t, .slice al an ac, .slice ak m ck, .slice av q cv, .int .i64 0], .agg #[.int .i64 4, .int .i64 0, .string t, .slice bl bn bc, .slice bk bm ek, .slice bv bq ev]] w fun e w' => e = .returned (.bool true) ∧ Below w.heap.size w w' := by
  have HB := Lib.hid (fun o o' => ((Below.refl w.heap.size w).alloc (Nat.le_refl _) o).alloc (by simp) o')
  have HS := Lib.hid (fun wx => same_text t al ak av bl bk bv an ac m ck q cv bn bc bm ek bq ev wx)
  go_enter Tryd.func30, Tryd.ntmps30
  go_wp2_with (go_at_call 17; refine (HS.out _).mono ?_; rintro e w3 ⟨rfl, hb3⟩; have HB3 := Lib.hid ((HB.out _ _).trans (hb3.mono (by simp; omega))); clear hb3)
  go_ret
  exact ⟨rfl, HB3.out⟩

/-- The answer of a string, taken apart. -/
theorem ResIs.text {t : ByteArray} {w : World} {r : Value} (h : ResIs (strT t) w r) : ∃ al an ac ak m ck av q cv, r = .agg #[.int .i64 4, .int .i64 0, .string t, .slice al an ac, .slice ak m ck, .slice av q cv, .int .i64 0] := by
  obtain ⟨k, h, t', al, n, cl, ak, m, ck, av, q, cv, e, hr⟩ := h
  unfold strT RV.Rep at hr
  obtain ⟨al', cl', ak', ck', av', cv', e2, _⟩ := hr
  simp only [Value.agg.injEq, Array.mk.injEq, List.cons.injEq, Value.int.injEq, Value.string.injEq, true_and, and_true] at e2
  obtain ⟨rfl, rfl, rfl, _⟩ := e2
  exact ⟨_, _, _, _, _, _, _, _, _, e⟩

def TwoPost (s t : ByteArray) (w : World) (e : Ending) (w' : World) : Prop := (∃ b, e = .returned (.bool b) ∧ (b = true → s.size + t.size ≤ 4096 ∧ Lib.validD s.data.toList = true ∧ Lib.validD t.data.toList = true)) ∧ Below w.heap.size w w'

set_option maxRecDepth 100000 in
set_option maxHeartbeats 800000 in
theorem two_any (s t : ByteArray) (w : World) (hT : Tabs w) (hs : s.size ≤ reachN) (ht : t.size ≤ reachN) :
    Calls Tryd.prog 29 #[.string s, .string t] w (TwoPost s t w) := by
  have HV1 := Lib.hid (fun wx (hb : Below w.heap.size w wx) => valid_c s wx (by unfold reachN at hs; omega) (hT.below hb))
  have HV2 := Lib.hid (fun wx (hb : Below w.heap.size w wx) => valid_c t wx (by unfold reachN at ht; omega) (hT.below hb))
  unfold reachN at hs ht
  by_cases h : s.size + t.size ≤ 4096
  · have hj : (s.size : Int) + (t.size : Int) ≤ 4096 := by omega
    cases h1 : Lib.validD s.data.toList
    · rw [h1] at HV1
      clear h1
      go_enter Tryd.func29, Tryd.ntmps29
      go_wp2_with (go_at_call 14; refine (HV1.out _ (Below.refl _ _)).mono ?_; rintro e w3 ⟨rfl, hb3⟩; have HB3 := Lib.hid hb3; clear hb3)
      go_ret
      exact ⟨⟨false, rfl, fun e => by cases e⟩, HB3.out⟩
    · rw [h1] at HV1
      have H1 := Lib.hid h1
      clear h1
      go_enter Tryd.func29, Tryd.ntmps29
      go_wp2_with fail
      refine (HV1.out _ (Below.refl _ _)).mono ?_
      rintro e w3 ⟨rfl, hb3⟩
      have HB3 := Lib.hid hb3
      clear hb3
      go_wp2_with (go_at_call 14; refine (HV2.out _ HB3.out).mono ?_; rintro e w4 ⟨rfl, hb4⟩; have HB4 := Lib.hid (HB3.out.trans (hb4.mono HB3.out.size)); clear hb4)
      go_ret
      exact ⟨⟨_, rfl, fun e => ⟨h, H1.out, e⟩⟩, HB4.out⟩
  · have hj : ¬ ((s.size : Int) + (t.size : Int) ≤ 4096) := by omega
    go_enter Tryd.func29, Tryd.ntmps29
    go_wp2_with fail
    go_ret
    exact ⟨⟨false, rfl, fun e => by cases e⟩, Below.refl _ _⟩

set_option maxRecDepth 100000 in
set_option maxHeartbeats 1600000 in
theorem fnRTrimStr_law_at {s t : ByteArray} {w : World} (hs : s.size ≤ reachN) (ht : t.size ≤ reachN) (hT : Tabs w) :
    Calls Tryd.prog 8 #[.string s, .string t] w fun e w' => e = .returned (.bool true) ∧ Below w.heap.size w w' := by
  have HW := Lib.hid (two_any s t w hT hs ht)
  have HS := Lib.hid (fun x wx => str_c x wx)
  have HSH := Lib.hid (fun wx => shortened_any s t wx hs ht)
  have HI := Lib.hid (fun vs vt wx => implRTrimStr_any s t wx hs ht vs vt)
  unfold reachN at hs ht
  by_cases h1 : s.size ≤ 2147483647
  · by_cases h2 : t.size ≤ 2147483647
    · go_enter Tryd.func8, Tryd.ntmps8
      go_wp2_with fail
      refine HW.out.mono ?_
      rintro e w1 ⟨⟨b, rfl, hq⟩, hb1⟩
      have HQ := Lib.hid hq
      have HB1 := Lib.hid hb1
      clear hq hb1
      cases b
      · go_wp2_with fail
        go_ret
        exact ⟨rfl, HB1.out⟩
      · have HV := Lib.hid (HQ.out rfl)
        clear HQ
        go_wp2_with fail
        refine (HS.out _ _).mono ?_
        rintro e w2 ⟨rfl, hb2⟩
        have HB2 := Lib.hid (HB1.out.trans (hb2.mono HB1.out.size))
        clear hb2
        go_wp2_with fail
        refine (HS.out _ _).mono ?_
        rintro e w3 ⟨rfl, hb3⟩
        have HB3 := Lib.hid (HB2.out.trans (hb3.mono HB2.out.size))
        clear hb3
        go_wp2_with fail
        refine (HI.out HV.out.2.1 HV.out.2.2 _).mono ?_
        rintro e w4 ⟨r, rfl, hr, hb4⟩
        have HB4 := Lib.hid (HB3.out.trans (hb4.mono HB3.out.size))
        obtain ⟨al, an, ac, ak, m, ck, av, q, cv, rfl⟩ := hr.is.text
        clear hb4 hr
        go_wp2_with fail
        refine (HSH.out _).mono ?_
        rintro e w5 ⟨rfl, rfl⟩
        go_wp2_with fail
        refine (HS.out _ _).mono ?_
        rintro e w6 ⟨rfl, hb6⟩
        have HB6 := Lib.hid (HB4.out.trans (hb6.mono HB4.out.size))
        clear hb6
        go_wp2_with fail
        refine (says_text _ _ _ _ _ _ _ _ _ _ _ _ _ _ _ _ _ _ _ _).mono ?_
        rintro e w7 ⟨rfl, hb7⟩
        have HB7 := Lib.hid (HB6.out.trans (hb7.mono HB6.out.size))
        clear hb7
        go_wp2_with fail
        go_ret
        exact ⟨rfl, HB7.out⟩
    · have hj : ¬ ((t.size : Int) ≤ 2147483647) := by omega
      go_enter Tryd.func8, Tryd.ntmps8
      go_wp2_with fail
      go_ret
      exact ⟨rfl, Below.refl _ _⟩
  · have hj : ¬ ((s.size : Int) ≤ 2147483647) := by omega
    go_enter Tryd.func8, Tryd.ntmps8
    go_wp2_with fail
    go_ret
    exact ⟨rfl, Below.refl _ _⟩
end Go.Proofs.YtjpcdbopioblaaaDoor
