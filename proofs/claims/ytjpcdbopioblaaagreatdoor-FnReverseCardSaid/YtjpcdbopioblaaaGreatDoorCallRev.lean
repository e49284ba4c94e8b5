/- FnReverse walked: impl.Reverse; the reference's reverse. -/
import Derived.Test.YtjpcdbopioblaaaGreatDoorReverse
import Derived.Test.YtjpcdbopioblaaaGreatDoorRowsW
namespace Go.Proofs.YtjpcdbopioblaaaGreatDoor
open Go.RowKit

set_option maxRecDepth 100000 in
theorem zzReverse_any (l : List RV) (a : Option Addr) (c : Nat) (w : World) (base : Nat) (hl : l.length ≤ 100000) (hb : base ≤ w.heap.size) (hg : RV.GoL w base a 0 l) :
    Calls Tryz.prog 37 #[.iface 87 (.slice a l.length c)] w (RevPost l w base) := by
  have HF := Lib.hid (funcReverse_any l a c w base hl hb hg)
  clear hg
  unfold RevPost at *
  go_enter Tryz.func37, Tryz.ntmps37
  go_wp2_with fail
  refine HF.out.mono ?_
  rintro e w1 ⟨a', c', rfl, hg', hb'⟩
  have HG := Lib.hid hg'
  have HB := Lib.hid hb'
  clear hg' hb' HF
  go_wp2_with fail
  go_ret
  exact ⟨_, _, rfl, HG.out, HB.out⟩

theorem goodL_reverse {l : List RV} (h : RV.GoodL l) : RV.GoodL l.reverse := by
  induction l with
  | nil => simpa using h
  | cons x xs ih => rw [List.reverse_cons, RV.GoodL.append]; exact ⟨ih h.2, h.1, trivial⟩
theorem nodesL_reverse (l : List RV) : RV.nodesL l.reverse = RV.nodesL l := by
  induction l with
  | nil => rfl
  | cons x xs ih =>
    have e : ∀ a b : List RV, RV.nodesL (a ++ b) = RV.nodesL a + RV.nodesL b := fun a b => by
      induction a with
      | nil => simp [RV.nodesL]
      | cons x xs ih => simp only [List.cons_append, RV.nodesL, ih]; omega
    rw [List.reverse_cons, e, ih]; simp [RV.nodesL]; omega
theorem bytesL_reverse (l : List RV) : RV.bytesL l.reverse = RV.bytesL l := by
  induction l with
  | nil => rfl
  | cons x xs ih =>
    have e : ∀ a b : List RV, RV.bytesL (a ++ b) = RV.bytesL a + RV.bytesL b := fun a b => by
      induction a with
      | nil => simp [RV.bytesL]
      | cons x xs ih => simp only [List.cons_append, RV.bytesL, ih]; omega
    rw [List.reverse_cons, e, ih]; simp [RV.bytesL]; omega

set_option maxRecDepth 100000 in
set_option maxHeartbeats 1600000 in
theorem implReverse_any (l : List RV) (v : Value) (w : World) (hg : RV.GoodL l) (hn : RV.nodesL l ≤ 399) (hbt : RV.bytesL l ≤ 100000) (hr : (arrT l).Rep w v) :
    Calls Tryz.prog 11 #[v] w (ResPost (arrT l.reverse) w) := by
  have hlen : l.length ≤ 400 := Nat.le_trans (RV.len_le l) (by omega)
  have hT := fun wx (hbw : Below w.heap.size w wx) => toGo_any 400 (Nat.le_refl _) (arrT l) v wx (by rw [arrT_nodes]; omega) (arrT_good hg) (hr.below hbw)
  have hshape : ∀ wx b x, (arrT l).Go wx b x → ∃ a c, x = .iface 87 (.slice a l.length c) ∧ RV.GoL wx b a 0 l := fun wx b x hx => by
    unfold arrT RV.Go at hx
    rcases hx with ⟨e, _⟩ | ⟨e, _⟩ | ⟨e, _⟩ | ⟨e, _⟩ | ⟨e, _⟩ | ⟨_, a, c, e, h⟩ | ⟨e, _⟩
    all_goals first | exact absurd e (by decide) | exact ⟨a, c, e, h⟩
  have HT := Lib.hid hT
  have HS := Lib.hid hshape
  have HN := Lib.hid (fun wx base a c hb (h : RV.GoL wx base a 0 l) => zzReverse_any l a c wx base (by omega) hb h)
  have HR := Lib.hid (fun wx base a c (h : RV.GoL wx base a 0 l.reverse) => result_all (arrT l.reverse) (.iface 87 (.slice a l.length c)) wx base (arrT_good (goodL_reverse hg)) (arrT_sized (by rw [nodesL_reverse]; omega) (by rw [bytesL_reverse]; exact hbt)) (by unfold arrT RV.Go; exact .inr (.inr (.inr (.inr (.inr (.inl ⟨rfl, a, c, by simp, h⟩)))))))
  have HB := Lib.hid (fun o o' => ((Below.refl w.heap.size w).alloc (Nat.le_refl _) o).alloc (by simp) o')
  unfold arrT RV.Rep at hr
  obtain ⟨al, cl, ak, ck, av, cv, rfl, _⟩ := hr
  clear hT hshape
  unfold ResPost
  generalize arrT l.reverse = T at HR ⊢
  go_enter Tryz.func11, Tryz.ntmps11
  go_wp2_with fail
  refine (HT.out _ (HB.out _ _)).mono ?_
  rintro e w1 ⟨x, rfl, hx, hb1⟩
  obtain ⟨a1, c1, rfl, hgl⟩ := HS.out _ _ _ hx
  have HX := Lib.hid hgl
  have HBS := Lib.hid hb1.size
  have HB1 := Lib.hid ((HB.out _ _).trans (hb1.mono (by simp; omega)))
  obtain ⟨hc1', hf1'⟩ := bcell hb1
  have hz1 := hb1.size
  simp at hz1
  clear hb1 hx hgl
  have hy1 : w.heap.size + 1 < w1.heap.size := by omega
  have hc1 := fun o => hc1' (w.heap.size + 1) o (by simp)
  have hf1 := fun o => hf1' (w.heap.size + 1) o (by simp)
  clear hc1' hf1' hz1
  go_wp2_with fail
  refine (HN.out _ _ _ _ HBS.out HX.out).mono ?_
  rintro e w2 ⟨a2, c2, rfl, hgo, hb2⟩
  have HGO := Lib.hid hgo
  have HB2 := Lib.hid (HB1.out.trans (hb2.mono HB1.out.size))
  obtain ⟨hc2', hf2'⟩ := bcell hb2
  have hc2 := fun o => hc2' (w.heap.size + 1) o hy1
  have hf2 := fun o => hf2' (w.heap.size + 1) o hy1
  have hy2 : w.heap.size + 1 < w2.heap.size := Nat.lt_of_lt_of_le hy1 hb2.size
  clear hgo hb2 hc2' hf2'
  go_wp2_with fail
  refine (HR.out _ _ _ _ HGO.out).mono ?_
  rintro e w3 ⟨r, rfl, hr, hb3⟩
  have hsh := hr.shape
  have HRR := Lib.hid hr
  have HB3 := Lib.hid (HB2.out.trans (hb3.mono HB2.out.size))
  obtain ⟨hc3', hf3'⟩ := bcell hb3
  have hc3 := fun o => hc3' (w.heap.size + 1) o hy2
  have hf3 := fun o => hf3' (w.heap.size + 1) o hy2
  clear hc3' hf3' hb3 hr
  obtain ⟨rk, rh, rt, ral, rn, rcl, rak, rm, rck, rav, rq, rcv, rfl⟩ := hsh
  go_wp2_with fail
  refine bodyPost_ret (v := .agg #[.int .i64 rk, .int .i64 rh, .string rt, .slice ral rn rcl, .slice rak rm rck, .slice rav rq rcv, .int .i64 0]) (by rw [results_cell rfl]; go_simp) rfl ?_
  have hw2 := HB2.out.size
  have fin : ∀ wx, w3.grownBy wx (some (w.heap.size + 1)) → (∃ r, Ending.returned (.agg #[.int .i64 rk, .int .i64 rh, .string rt, .slice ral rn rcl, .slice rak rm rck, .slice rav rq rcv, .int .i64 0]) = Ending.returned r ∧ ResHere w.heap.size T wx r ∧ Below w.heap.size w wx) := fun wx hgb => by
    refine ⟨_, rfl, fun wy hx => HRR.out wy fun kk hb hk => ?_, below_gb HB3.out hgb HB3.out.size (Nat.le_succ _)⟩
    exact (hx kk (by omega) (Nat.lt_of_lt_of_le hk hgb.size)).trans (hgb.block kk hk (fun e => by injection e; omega))
  with_reducible refine fin _ ?_
  repeat' (with_reducible first | exact World.grownBy.refl _ _ | refine gb_alloc ?_ _ | refine gb_set ?_ _ _)
end Go.Proofs.YtjpcdbopioblaaaGreatDoor
