/- impl.FormatURI and impl.FormatURID walked at a string. -/
import Derived.Test.YtjpcdbopioblaaaGreatDoorUriEsc2
import Derived.Test.YtjpcdbopioblaaaGreatDoorUriUn
import Derived.Test.YtjpcdbopioblaaaGreatDoorStrLaws
namespace Go.Proofs.YtjpcdbopioblaaaGreatDoor
open Go.RowKit

/-- The text that the first step makes, and the one that both make. -/
def txt1 (s : ByteArray) : ByteArray := ⟨(s.data.toList.flatMap enc1).toArray⟩
def txt2 (s : ByteArray) : ByteArray := ⟨(s.data.toList.flatMap enc2).toArray⟩
theorem txt1_size (s : ByteArray) : (txt1 s).size ≤ 3 * s.size := by
  have h1 : (txt1 s).size = pos1 s s.size := by
    unfold txt1 pos1
    rw [List.take_of_length_le (by rw [Array.length_toList]; exact Nat.le_refl _)]
    show (List.toArray _).size = _
    rw [List.size_toArray]
  have h2 := pos1_eq s s.size (Nat.le_refl _)
  have h3 := hxN_le s s.size
  omega
theorem txt2_size (s : ByteArray) : (txt2 s).size ≤ 3 * s.size := by
  have h1 : (txt2 s).size = pos2 s s.size := by
    unfold txt2 pos2
    rw [List.take_of_length_le (by rw [Array.length_toList]; exact Nat.le_refl _)]
    show (List.toArray _).size = _
    rw [List.size_toArray]
  have h2 := pos2_eq s s.size (Nat.le_refl _)
  have h3 := esN_le s s.size
  omega
theorem txt_step (s : ByteArray) : (⟨(plusX [37, 50, 48] (txt1 s).data.toList).toArray⟩ : ByteArray) = txt2 s := by
  unfold txt1 txt2
  have h := plus20_all s.data.toList
  show (⟨(plus20 (s.data.toList.flatMap enc1).toArray.toList).toArray⟩ : ByteArray) = _
  rw [h]
theorem txt2_noplus (s : ByteArray) : (⟨(plusX [37, 50, 66] (txt2 s).data.toList).toArray⟩ : ByteArray) = txt2 s := by
  have e : (txt2 s).data.toList = s.data.toList.flatMap enc2 := rfl
  rw [e, plusX_none _ _ fun c hc hh => enc2_noplus s.data.toList (hh ▸ hc)]
  rfl
theorem txt2_is (s : ByteArray) : IsE2 s (txt2 s) := rfl

theorem funcToString_any (s : ByteArray) (w : World) : Calls Tryz.prog 136 #[.iface 9 (.string s)] w fun e w' => e = .returned (.iface 9 (.string s)) ∧ w' = w := by
  have a_str := as_str_str
  go_enter Tryz.func136, Tryz.ntmps136
  go_wp2_with fail
  go_ret
  exact ⟨rfl, rfl⟩
set_option maxRecDepth 100000 in
theorem queryEscape_any (s : ByteArray) (w : World) (hT : TabU w) (hs : s.size ≤ 100000) : Calls Tryz.prog 140 #[.string s] w fun e w' => e = .returned (.string (txt1 s)) ∧ Below w.heap.size w w' := by
  have HX : Hid (Calls Tryz.prog 166 #[.string s, .int .u8 32] w fun e w' => e = .returned (.string (txt1 s)) ∧ Below w.heap.size w w') := Lib.hid (escape_any s w hT (by omega))
  clear hT hs
  go_enter Tryz.func140, Tryz.ntmps140
  go_wp2_with fail
  refine HX.out.mono ?_
  rintro e w2 ⟨rfl, hb⟩
  have HB := Lib.hid hb
  clear hb
  go_wp2_with fail
  go_ret
  exact ⟨rfl, HB.out⟩
set_option maxRecDepth 100000 in
theorem queryUnescape_any (s : ByteArray) (w : World) (hT : TabU w) (hs : s.size ≤ 100000) : Calls Tryz.prog 141 #[.string (txt2 s)] w fun e w' => e = .returned (.tuple #[.string s, .nilIface]) ∧ Below w.heap.size w w' := by
  have HX := Lib.hid (unescape_any s (txt2 s) w (txt2_is s) hT (by omega))
  clear hT hs
  go_enter Tryz.func141, Tryz.ntmps141
  go_wp2_with fail
  refine HX.out.mono ?_
  rintro e w2 ⟨rfl, hb⟩
  have HB := Lib.hid hb
  clear hb
  go_wp2_with fail
  go_ret2
  exact ⟨rfl, HB.out⟩
set_option maxRecDepth 100000 in
set_option maxHeartbeats 800000 in
theorem funcToURI_any (s : ByteArray) (w : World) (hT : TabU w) (hs : s.size ≤ 100000) : Calls Tryz.prog 91 #[.iface 9 (.string s)] w fun e w' => e = .returned (.iface 9 (.string (txt2 s))) ∧ Below w.heap.size w w' := by
  have HQ := Lib.hid (queryEscape_any s w hT hs)
  have HZ : Hid (∀ wx, Calls Tryz.prog 139 #[.string (txt1 s), .string ⟨#[43]⟩, .string ⟨#[37, 50, 48]⟩] wx fun e w' => e = .returned (.string (txt2 s)) ∧ Below wx.heap.size wx w') := Lib.hid fun wx => by
    have h := zzReplaceAll_any (txt1 s) ⟨#[37, 50, 48]⟩ wx (by have := txt1_size s; omega) (by decide)
    rw [show (⟨#[37, 50, 48]⟩ : ByteArray).data.toList = [37, 50, 48] from rfl, txt_step] at h
    exact h
  have a_str := as_str_str
  clear hT hs
  go_enter Tryz.func91, Tryz.ntmps91
  go_wp2_with fail
  refine (funcToString_any s _).mono ?_
  rintro e w1 ⟨rfl, rfl⟩
  go_wp2_with fail
  refine HQ.out.mono ?_
  rintro e w2 ⟨rfl, hb⟩
  have HB := Lib.hid hb
  clear hb HQ
  go_wp2_with fail
  refine (HZ.out _).mono ?_
  rintro e w3 ⟨rfl, hb⟩
  have HB3 := Lib.hid (HB.out.trans (hb.mono HB.out.size))
  clear hb HB
  go_wp2_with fail
  go_ret
  exact ⟨rfl, HB3.out⟩
set_option maxRecDepth 100000 in
set_option maxHeartbeats 800000 in
theorem funcToURId_any (s : ByteArray) (w : World) (hT : TabU w) (hs : s.size ≤ 100000) : Calls Tryz.prog 92 #[.iface 9 (.string (txt2 s))] w fun e w' => e = .returned (.iface 9 (.string s)) ∧ Below w.heap.size w w' := by
  have HQ := Lib.hid (fun wx (hb : Below w.heap.size w wx) => queryUnescape_any s wx (hT.below hb) hs)
  have HZ : Hid (Calls Tryz.prog 139 #[.string (txt2 s), .string ⟨#[43]⟩, .string ⟨#[37, 50, 66]⟩] w fun e w' => e = .returned (.string (txt2 s)) ∧ Below w.heap.size w w') := Lib.hid (by
    have h := zzReplaceAll_any (txt2 s) ⟨#[37, 50, 66]⟩ w (by have := txt2_size s; omega) (by decide)
    rw [show (⟨#[37, 50, 66]⟩ : ByteArray).data.toList = [37, 50, 66] from rfl, txt2_noplus] at h
    exact h)
  have HS := Lib.hid (fun wx => funcToString_any (txt2 s) wx)
  have a_str := as_str_str
  clear hT hs
  generalize txt2 s = t at *
  go_enter Tryz.func92, Tryz.ntmps92
  go_wp2_with fail
  refine (HS.out _).mono ?_
  rintro e w1 ⟨rfl, rfl⟩
  go_wp2_with fail
  refine HZ.out.mono ?_
  rintro e w2 ⟨rfl, hb⟩
  have HB := Lib.hid hb
  clear hb HZ
  go_wp2_with fail
  refine (HQ.out _ HB.out).mono ?_
  rintro e w3 ⟨rfl, hb⟩
  have HB3 := Lib.hid (HB.out.trans (hb.mono HB.out.size))
  clear hb HB HQ
  go_wp2_with fail
  go_ret
  exact ⟨rfl, HB3.out⟩

set_option maxRecDepth 100000 in
theorem zzURI_any (s : ByteArray) (w : World) (hT : TabU w) (hs : s.size ≤ 100000) : Calls Tryz.prog 45 #[.iface 9 (.string s)] w fun e w' => e = .returned (.iface 9 (.string (txt2 s))) ∧ Below w.heap.size w w' := by
  have HN := Lib.hid (funcToURI_any s w hT hs)
  clear hT hs
  go_enter Tryz.func45, Tryz.ntmps45
  go_wp2_with fail
  refine HN.out.mono ?_
  rintro e w2 ⟨rfl, hb⟩
  have HB := Lib.hid hb
  clear hb
  go_wp2_with fail
  go_ret
  exact ⟨rfl, HB.out⟩

set_option maxRecDepth 100000 in
theorem zzURID_any (s : ByteArray) (w : World) (hT : TabU w) (hs : s.size ≤ 100000) : Calls Tryz.prog 46 #[.iface 9 (.string (txt2 s))] w fun e w' => e = .returned (.iface 9 (.string s)) ∧ Below w.heap.size w w' := by
  have HN := Lib.hid (funcToURId_any s w hT hs)
  clear hT hs
  go_enter Tryz.func46, Tryz.ntmps46
  go_wp2_with fail
  refine HN.out.mono ?_
  rintro e w2 ⟨rfl, hb⟩
  have HB := Lib.hid hb
  clear hb
  go_wp2_with fail
  go_ret
  exact ⟨rfl, HB.out⟩

theorem strT_shape {t : ByteArray} {wx : World} {b : Nat} {x : Value} (hx : (strT t).Go wx b x) : x = .iface 9 (.string t) := by
  unfold strT RV.Go at hx
  rcases hx with ⟨e, _⟩ | ⟨e, _⟩ | ⟨e, _⟩ | ⟨e, _⟩ | ⟨_, e⟩ | ⟨e, _⟩ | ⟨e, _⟩
  all_goals first | exact e | exact absurd e (by decide)
theorem strT_go (t : ByteArray) (wx : World) : (strT t).Go wx 0 (.iface 9 (.string t)) := by unfold strT RV.Go; exact .inr (.inr (.inr (.inr (.inl ⟨rfl, rfl⟩))))
theorem strT_nodes (t : ByteArray) : (strT t).nodes ≤ 400 := by unfold strT RV.nodes RV.nodesL; decide

set_option maxRecDepth 100000 in
set_option maxHeartbeats 1600000 in
theorem implFormatURI_any (s : ByteArray) (w : World) (hT : TabU w) (hs : s.size ≤ 100000) (hv : Lib.validD s.data.toList = true) :
    Calls Tryz.prog 21 #[.agg #[.int .i64 4, .int .i64 0, .string s, .slice none 0 0, .slice none 0 0, .slice none 0 0]] w (ResPost (strT (txt2 s)) w) := by
  have hz1 : s.size ≤ 300000 := by omega
  have hz2 : (txt2 s).size ≤ 300000 := by have := txt2_size s; omega
  have HT1 := Lib.hid (fun wx => toGo_any 400 (Nat.le_refl _) (strT s) _ wx (strT_nodes _) (strT_good hv) (strT_rep (by unfold reachN; omega)))
  have HN := Lib.hid (fun wx (hb : Below w.heap.size w wx) => zzURI_any s wx (hT.below hb) hs)
  have HR := Lib.hid (fun wx => result_any (strT (txt2 s)) _ wx 0 (strT_go _ wx) (fun w' _ => (fromGo_text (txt2 s) w').mono fun e w'' ⟨he, hb⟩ => ⟨_, he, fun _ _ => strT_rep (by unfold reachN; omega), hb⟩))
  have HB := Lib.hid (fun o o' => (((Below.refl w.heap.size w).alloc (Nat.le_refl _) o).alloc (by simp) o'))
  clear hT hs hv hz1 hz2
  generalize strT (txt2 s) = T at HR ⊢
  unfold ResPost
  go_enter Tryz.func21, Tryz.ntmps21
  go_wp2_with fail
  refine (HT1.out _).mono ?_
  rintro e w1 ⟨x, rfl, hx, hb1⟩
  obtain rfl := strT_shape hx
  have HB1 := Lib.hid ((HB.out _ _).trans (hb1.mono (by simp; omega)))
  obtain ⟨hc1', hf1'⟩ := bcell hb1
  have hz1 := hb1.size
  simp at hz1
  clear hb1 hx
  have hy1 : w.heap.size + 1 < w1.heap.size := by omega
  have hc1 := fun o => hc1' (w.heap.size + 1) o (by simp)
  have hf1 := fun o => hf1' (w.heap.size + 1) o (by simp)
  clear hc1' hf1' hz1
  go_wp2_with fail
  refine (HN.out _ HB1.out).mono ?_
  rintro e w2 ⟨rfl, hb2⟩
  have HB2 := Lib.hid (HB1.out.trans (hb2.mono HB1.out.size))
  obtain ⟨hc2', hf2'⟩ := bcell hb2
  have hz2 := hb2.size
  have hc2 := fun o => hc2' (w.heap.size + 1) o hy1
  have hf2 := fun o => hf2' (w.heap.size + 1) o hy1
  have hy2 : w.heap.size + 1 < w2.heap.size := by omega
  clear hc2' hf2' hb2 hz2
  go_wp2_with fail
  refine (HR.out _).mono ?_
  rintro e w3 ⟨r, rfl, hr, hb3⟩
  have hsh := hr.shape
  have HRR := Lib.hid hr
  have HB3 := Lib.hid (HB2.out.trans (hb3.mono HB2.out.size))
  have HZ3 := Lib.hid hb3.size
  obtain ⟨hc3', hf3'⟩ := bcell hb3
  have hc3 := fun o => hc3' (w.heap.size + 1) o hy2
  have hf3 := fun o => hf3' (w.heap.size + 1) o hy2
  clear hc3' hf3' hb3 hr
  obtain ⟨rk, rh, rt, ral, rn, rcl, rak, rm, rck, rav, rq, rcv, rfl⟩ := hsh
  go_wp2_with fail
  refine bodyPost_ret (v := .agg #[.int .i64 rk, .int .i64 rh, .string rt, .slice ral rn rcl, .slice rak rm rck, .slice rav rq rcv, .int .i64 0]) (by rw [results_cell rfl]; go_simp) rfl ?_
  have fin : ∀ wx, w3.grownBy wx (some (w.heap.size + 1)) → (∃ r, Ending.returned (.agg #[.int .i64 rk, .int .i64 rh, .string rt, .slice ral rn rcl, .slice rak rm rck, .slice rav rq rcv, .int .i64 0]) = Ending.returned r ∧ ResHere w.heap.size T wx r ∧ Below w.heap.size w wx) := fun wx hgb => by
    refine ⟨_, rfl, fun wy hx => HRR.out wy fun kk hb hk => ?_, below_gb HB3.out hgb HB3.out.size (by omega)⟩
    exact (hx kk (by omega) (Nat.lt_of_lt_of_le hk hgb.size)).trans (hgb.block kk hk (fun e => by injection e; omega))
  with_reducible refine fin _ ?_
  repeat' (with_reducible first | exact World.grownBy.refl _ _ | refine gb_alloc ?_ _ | refine gb_set ?_ _ _)

set_option maxRecDepth 100000 in
set_option maxHeartbeats 1600000 in
theorem implFormatURID_any (s : ByteArray) (w : World) (hT : TabU w) (hs : s.size ≤ 100000) (hv : Lib.validD (txt2 s).data.toList = true) :
    Calls Tryz.prog 24 #[.agg #[.int .i64 4, .int .i64 0, .string (txt2 s), .slice none 0 0, .slice none 0 0, .slice none 0 0]] w (ResPost (strT s) w) := by
  have hz1 : (txt2 s).size ≤ 300000 := by have := txt2_size s; omega
  have hz2 : s.size ≤ 300000 := by omega
  have HT1 := Lib.hid (fun wx => toGo_any 400 (Nat.le_refl _) (strT (txt2 s)) _ wx (strT_nodes _) (strT_good hv) (strT_rep (by unfold reachN; omega)))
  have HN := Lib.hid (fun wx (hb : Below w.heap.size w wx) => zzURID_any s wx (hT.below hb) hs)
  have HR := Lib.hid (fun wx => result_any (strT s) _ wx 0 (strT_go _ wx) (fun w' _ => (fromGo_text s w').mono fun e w'' ⟨he, hb⟩ => ⟨_, he, fun _ _ => strT_rep (by unfold reachN; omega), hb⟩))
  have HB := Lib.hid (fun o o' => (((Below.refl w.heap.size w).alloc (Nat.le_refl _) o).alloc (by simp) o'))
  clear hT hs hv hz1 hz2
  generalize strT s = T at HR ⊢
  unfold ResPost
  go_enter Tryz.func24, Tryz.ntmps24
  go_wp2_with fail
  refine (HT1.out _).mono ?_
  rintro e w1 ⟨x, rfl, hx, hb1⟩
  obtain rfl := strT_shape hx
  have HB1 := Lib.hid ((HB.out _ _).trans (hb1.mono (by simp; omega)))
  obtain ⟨hc1', hf1'⟩ := bcell hb1
  have hz1 := hb1.size
  simp at hz1
  clear hb1 hx
  have hy1 : w.heap.size + 1 < w1.heap.size := by omega
  have hc1 := fun o => hc1' (w.heap.size + 1) o (by simp)
  have hf1 := fun o => hf1' (w.heap.size + 1) o (by simp)
  clear hc1' hf1' hz1
  go_wp2_with fail
  refine (HN.out _ HB1.out).mono ?_
  rintro e w2 ⟨rfl, hb2⟩
  have HB2 := Lib.hid (HB1.out.trans (hb2.mono HB1.out.size))
  obtain ⟨hc2', hf2'⟩ := bcell hb2
  have hz2 := hb2.size
  have hc2 := fun o => hc2' (w.heap.size + 1) o hy1
  have hf2 := fun o => hf2' (w.heap.size + 1) o hy1
  have hy2 : w.heap.size + 1 < w2.heap.size := by omega
  clear hc2' hf2' hb2 hz2
  go_wp2_with fail
  refine (HR.out _).mono ?_
  rintro e w3 ⟨r, rfl, hr, hb3⟩
  have hsh := hr.shape
  have HRR := Lib.hid hr
  have HB3 := Lib.hid (HB2.out.trans (hb3.mono HB2.out.size))
  have HZ3 := Lib.hid hb3.size
  obtain ⟨hc3', hf3'⟩ := bcell hb3
  have hc3 := fun o => hc3' (w.heap.size + 1) o hy2
  have hf3 := fun o => hf3' (w.heap.size + 1) o hy2
  clear hc3' hf3' hb3 hr
  obtain ⟨rk, rh, rt, ral, rn, rcl, rak, rm, rck, rav, rq, rcv, rfl⟩ := hsh
  go_wp2_with fail
  refine bodyPost_ret (v := .agg #[.int .i64 rk, .int .i64 rh, .string rt, .slice ral rn rcl, .slice rak rm rck, .slice rav rq rcv, .int .i64 0]) (by rw [results_cell rfl]; go_simp) rfl ?_
  have fin : ∀ wx, w3.grownBy wx (some (w.heap.size + 1)) → (∃ r, Ending.returned (.agg #[.int .i64 rk, .int .i64 rh, .string rt, .slice ral rn rcl, .slice rak rm rck, .slice rav rq rcv, .int .i64 0]) = Ending.returned r ∧ ResHere w.heap.size T wx r ∧ Below w.heap.size w wx) := fun wx hgb => by
    refine ⟨_, rfl, fun wy hx => HRR.out wy fun kk hb hk => ?_, below_gb HB3.out hgb HB3.out.size (by omega)⟩
    exact (hx kk (by omega) (Nat.lt_of_lt_of_le hk hgb.size)).trans (hgb.block kk hk (fun e => by injection e; omega))
  with_reducible refine fin _ ?_
  repeat' (with_reducible first | exact World.grownBy.refl _ _ | refine gb_alloc ?_ _ | refine gb_set ?_ _ _)

end Go.Proofs.YtjpcdbopioblaaaGreatDoor
