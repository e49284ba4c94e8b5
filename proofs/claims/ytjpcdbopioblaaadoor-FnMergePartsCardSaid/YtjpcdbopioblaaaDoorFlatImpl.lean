/- FlattenBy walked: gojq.ZzFlattenBy, impl.FlattenBy. -/
import Derived.Test.YtjpcdbopioblaaaDoorFlatten
import Derived.Test.YtjpcdbopioblaaaDoorRowsW
namespace Go.Proofs.YtjpcdbopioblaaaDoor
open Go.RowKit

theorem FlatS.goL {W0 wr : World} {base : Nat} {out : List RV} {sl : Value} {us : List Value} (h : FlatS W0 base out sl us wr) (hb : base ≤ W0.heap.size) : ∃ a c, sl = .slice a out.length c ∧ RV.GoL wr base a 0 out := by
  have hlen := h.go.len
  have hcell := fun g => h.row.cells (g := g)
  rcases h.row.2 with ⟨rfl, h0⟩ | ⟨g, cap, cur, rfl, hg, _⟩
  · have : out = [] := List.eq_nil_of_length_eq_zero h0
    subst this
    exact ⟨none, 0, rfl, by unfold RV.GoL; trivial⟩
  · refine ⟨_, cap, rfl, RV.GoL.of (Nat.le_trans hb hg) out 0 fun j hj => ?_⟩
    have hju : j < us.length := by omega
    refine ⟨us[j], ?_, (h.go.get j hj hju).same (SameFrom.of_below h.below base)⟩
    have h2 := hcell g rfl j us[j] (by simp [hju])
    have e2 : (⟨g, 0, none⟩ : Addr).add j = ⟨g, 0 + (0 + j), none⟩ := by unfold Addr.add; split <;> simp_all
    rw [e2] at h2
    exact h2

def FlatOut (out : List RV) (w : World) (base : Nat) (e : Ending) (w' : World) : Prop := ∃ a c, e = .returned (.slice a out.length c) ∧ RV.GoL w' base a 0 out ∧ Below w.heap.size w w'

set_option maxRecDepth 100000 in
set_option maxHeartbeats 800000 in
theorem zzFlatten_any (l : List RV) (a : Option Addr) (c : Nat) (d : Int) (w : World) (base : Nat) (hb : base ≤ w.heap.size) (hg : RV.GoL w base a 0 l) (hn : RV.nodesL l ≤ 800) (hd1 : -1 ≤ d) (hd2 : d ≤ 200) :
    Calls Tryd.prog 47 #[.slice a l.length c, .float .f64 (floatOfInt .f64 d)] w (FlatOut (RV.flatL d l) w base) := by
  have h0 : FlatS w base [] (.slice (some ⟨w.heap.size, 0, none⟩) 0 0) [] (w.alloc (.cells #[] 20)) :=
    ⟨World.ownsRow_made w #[] 0 (Nat.le_refl _) (by decide) (by simp), by unfold RV.GoV; rfl, (Below.refl _ _).alloc (Nat.le_refl _) _⟩
  have HF := Lib.hid (flatten_all w base (RV.nodesL l + 1) l a c d _ [] [] _ (Nat.lt_succ_self _) hg h0 (by simp; omega) (by omega) hd2)
  have HB := Lib.hid hb
  clear h0 hg hb hn hd1 hd2
  generalize floatOfInt .f64 d = F at HF ⊢
  unfold FlatOut
  go_enter Tryd.func47, Tryd.ntmps47
  go_wp2_with fail
  refine HF.out.mono ?_
  rintro e w1 ⟨sl, us, rfl, hs⟩
  obtain ⟨a1, c1, rfl, hgl⟩ := hs.goL HB.out
  have HG := Lib.hid hgl
  have HW := Lib.hid hs.below
  clear hgl hs HF
  simp only [List.nil_append] at HG ⊢
  go_wp2_with fail
  go_ret
  exact ⟨_, _, rfl, HG.out, HW.out⟩

set_option maxRecDepth 100000 in
set_option maxHeartbeats 1600000 in
theorem implFlatten_any (l : List RV) (d : Int) (v : Value) (w : World) (hd1 : -1 ≤ d) (hd2 : d ≤ 200) (hg : RV.GoodL l) (hn : RV.nodesL l ≤ 800) (hb : RV.bytesL l ≤ 100000) (hr : (arrT l).Rep w v) :
    Calls Tryd.prog 22 #[v, .int .i64 d] w (ResPost (arrT (RV.flatL d l)) w) := by
  unfold arrT RV.Rep at hr
  obtain ⟨al, cl, ak, ck, av, cv, rfl, _, _, _, _, _, _, hrl, _⟩ := hr
  have hlen : l.length ≤ 2000 := Nat.le_trans (RV.len_le l) (by omega)
  have hfo := flatL_ok d l
  have HT := Lib.hid (fun wx (hbw : Below w.heap.size w wx) => listToGo_big 800 (fun x v w h1 h2 h3 => toGo_big 800 (by decide) x v w h1 h2 h3) l al cl wx hn hg (RV.RepL.below hbw hrl) hlen)
  have HN := Lib.hid (fun wx base a c hb (h : RV.GoL wx base a 0 l) => zzFlatten_any l a c d wx base hb h hn hd1 hd2)
  have HR := Lib.hid (fun wx base a c (h : RV.GoL wx base a 0 (RV.flatL d l)) => result_all (arrT (RV.flatL d l)) (.iface 85 (.slice a (RV.flatL d l).length c)) wx base (arrT_good (hfo.1 hg)) (arrT_sized (by omega) (by omega)) (by unfold arrT RV.Go; exact .inr (.inr (.inr (.inr (.inr (.inl ⟨rfl, a, c, rfl, h⟩)))))))
  have HB := Lib.hid (fun o o' => ((Below.refl w.heap.size w).alloc (Nat.le_refl _) o).alloc (by simp) o')
  clear hrl hfo hd1 hd2
  unfold ResPost
  generalize arrT (RV.flatL d l) = T at HR ⊢
  generalize RV.flatL d l = out at HN HR
  go_enter Tryd.func22, Tryd.ntmps22
  go_wp2_with fail
  refine (HT.out _ (HB.out _ _)).mono ?_
  rintro e w1 ⟨a', cap', rfl, hx, hb1⟩
  have HX := Lib.hid hx
  have HBS := Lib.hid hb1.size
  have HB1 := Lib.hid ((HB.out _ _).trans (hb1.mono (by simp; omega)))
  obtain ⟨hc1', hf1'⟩ := bcell hb1
  have hz1 := hb1.size
  simp at hz1
  clear hb1 hx
  have hy0 : w.heap.size < w1.heap.size := by omega
  have hy1 : w.heap.size + 1 < w1.heap.size := by omega
  have hc0 := fun o => hc1' w.heap.size o (by simp; omega)
  have hc1 := fun o => hc1' (w.heap.size + 1) o (by simp)
  have hf1 := fun o => hf1' (w.heap.size + 1) o (by simp)
  clear hc1' hf1' hz1
  go_wp2_with fail
  refine (HN.out _ _ _ _ HBS.out HX.out).mono ?_
  rintro e w2 ⟨a2, c2, rfl, hgo, hb2⟩
  have HGO := Lib.hid hgo
  have HB2 := Lib.hid (HB1.out.trans (hb2.mono HB1.out.size))
  obtain ⟨hc2', hf2'⟩ := bcell hb2
  have hc2 := fun o => hc2' (w.heap.size + 1) o hy1
  have hf2 := fun o => hf2' (w.heap.size + 1) o hy1
  have hy2 : w.heap.size + 1 < w2.heap.size := Nat.lt_of_lt_of_le hy1 hb2.size
  clear hgo hb2 hc2' hf2'
  go_wp2_with fail
  refine (HR.out _ _ _ _ HGO.out).mono ?_
  rintro e w3 ⟨r, rfl, hr, hb3⟩
  have hsh := hr.shape
  have HRR := Lib.hid hr
  have HB3 := Lib.hid (HB2.out.trans (hb3.mono HB2.out.size))
  obtain ⟨hc3', hf3'⟩ := bcell hb3
  have hc3 := fun o => hc3' (w.heap.size + 1) o hy2
  have hf3 := fun o => hf3' (w.heap.size + 1) o hy2
  clear hc3' hf3' hb3 hr
  obtain ⟨rk, rh, rt, ral, rn, rcl, rak, rm, rck, rav, rq, rcv, rfl⟩ := hsh
  go_wp2_with fail
  refine bodyPost_ret (v := .agg #[.int .i64 rk, .int .i64 rh, .string rt, .slice ral rn rcl, .slice rak rm rck, .slice rav rq rcv, .int .i64 0]) (by rw [results_cell rfl]; go_simp) rfl ?_
  have hw2 := HB2.out.size
  have fin : ∀ wx, w3.grownBy wx (some (w.heap.size + 1)) → (∃ r, Ending.returned (.agg #[.int .i64 rk, .int .i64 rh, .string rt, .slice ral rn rcl, .slice rak rm rck, .slice rav rq rcv, .int .i64 0]) = Ending.returned r ∧ ResHere w.heap.size T wx r ∧ Below w.heap.size w wx) := fun wx hgb => by
    refine ⟨_, rfl, fun wy hx => HRR.out wy fun kk hb hk => ?_, below_gb HB3.out hgb HB3.out.size (Nat.le_succ _)⟩
    exact (hx kk (by omega) (Nat.lt_of_lt_of_le hk hgb.size)).trans (hgb.block kk hk (fun e => by injection e; omega))
  with_reducible refine fin _ ?_
  repeat' (with_reducible first | exact World.grownBy.refl _ _ | refine gb_alloc ?_ _ | refine gb_set ?_ _ _)
end Go.Proofs.YtjpcdbopioblaaaDoor
