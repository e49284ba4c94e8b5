/- 'trim' of a decimal walked: zeros at the end go. -/
import Derived.Test.YtjpcdbopioblaaaDecMem
import Derived.Lib.BufferMore
namespace Go.Proofs.Ytjpcdbopioblaaa
open Go.RowKit

theorem gb_drew {a b : World} {row : Option Nat} (h : a.grownBy b row) : a.grownBy b.drew row := gb_below h (Below.refl _ b).drew
theorem DecAt.cut {W : World} {b : Nat} {cur : List Nat} {x : Nat} {dp : Int} (h : DecAt W b (cur ++ [x]) dp) {a : Option Addr} {c : Nat} (h0 : W.cell? ⟨b, 0, none⟩ = some (.slice a (cur ++ [x]).length c)) : DecAt (W.setCell ⟨b, 0, none⟩ (.slice a cur.length c)) b cur dp := by
  obtain ⟨v, hb, a', c', rfl, hle, hr⟩ := h
  have e0 : W.cell? ⟨b, 0, none⟩ = some (.slice a' (cur ++ [x]).length c') := by simp [World.cell?, hb]
  rw [h0] at e0
  simp only [Option.some.injEq, Value.slice.injEq] at e0
  obtain ⟨rfl, _, rfl⟩ := e0
  refine ⟨.slice a cur.length c, by simpa using Lib.heap_setCell_same hb (i := 0) (.slice a cur.length c), a, c, rfl, by simp at hle; omega, fun j hj => ?_⟩
  obtain ⟨g, e, hg⟩ := hr j (by simp; omega)
  refine ⟨g, e, ?_⟩
  have hne : g ≠ b := by
    rintro rfl
    obtain ⟨g2, e2, hg2⟩ := hr 0 (by simp)
    rw [e] at e2
    simp at e2
    subst e2
    rw [h0] at hg2
    simp at hg2
  rw [World.cell?_setCell_other _ _ _ _ (by intro e; injection e with e; exact hne e.symm), hg]
  simp [List.getElem_append_left hj]
theorem DecAt.zero {W : World} {b : Nat} {dp : Int} (h : DecAt W b [] dp) : DecAt (W.setCell ⟨b, 1, none⟩ (.int .i64 0)) b [] 0 := by
  obtain ⟨v, hb, a, c, rfl, _⟩ := h
  exact ⟨_, by simpa using Lib.heap_setCell_same hb (i := 1) (.int .i64 0), a, c, rfl, by simp, fun j hj => absurd hj (by simp)⟩

def TrimPost (b : Nat) (ds : List Nat) (dp : Int) (w : World) (e : Ending) (w' : World) : Prop := ∃ cur r, ds = cur ++ List.replicate r 0 ∧ (cur ≠ [] → cur.getD (cur.length - 1) 0 ≠ 0) ∧ e = .returned (.pointer (some ⟨b, 0, none⟩)) ∧ DecAt w' b cur (if cur = [] then 0 else dp) ∧ w.grownBy w' (some b)
set_option maxRecDepth 100000 in
set_option maxHeartbeats 1600000 in
theorem trim_any (b : Nat) (ds : List Nat) (dp : Int) (w : World) (h : DecAt w b ds dp) (hl : ds.length ≤ 100000) :
    Calls Try.prog 27 #[.pointer (some ⟨b, 0, none⟩)] w (TrimPost b ds dp w) := by
  have H := Lib.hid h
  clear h
  unfold TrimPost
  go_enter Try.func27, Try.ntmps27
  go_wp2_with fail
  go_loopg [] (ds.length) (fun gk wr => ∃ (cur : List Nat) (r : Nat), gk = cur.length ∧ Hid (ds = cur ++ List.replicate r 0) ∧ Hid (DecAt wr b cur dp) ∧ Hid (w.grownBy wr (some b)))
  case atStart => exact ⟨ds, 0, rfl, Lib.hid (by simp), H, Lib.hid (World.grownBy.refl w _)⟩
  case round =>
    obtain ⟨cur, r, rfl, HD, HR, HG⟩ := hrel
    clear H
    have HL : Hid (cur.length ≤ 100000) := Lib.hid (by have := congrArg List.length HD.out; simp at this; omega)
    rcases List.eq_nil_or_concat cur with rfl | ⟨pre, x, rfl⟩
    · obtain ⟨a, c, c0, c1, -⟩ := HR.out.open
      simp only [List.length_nil] at c0
      go_wp2_with fail
      go_quiet (fail)
      have HR1 : Hid (DecAt (wr.drewN nq) b [] dp) := HR
      have HG1 : Hid (w.grownBy (wr.drewN nq) (some b)) := Lib.hid (gb_drewN HG.out nq)
      clear c0 c1 HR HG
      generalize wr.drewN nq = w1 at *
      obtain ⟨a, c, c0, c1, -⟩ := HR1.out.open
      simp only [List.length_nil] at c0
      have f1 := HR1.out.fr 1
      have HZ := Lib.hid HR1.out.zero
      have HGZ := Lib.hid (gb_set HG1.out 1 (.int .i64 0))
      go_wp2_with fail
      go_ret
      exact ⟨[], r, HD.out, fun h => absurd rfl h, rfl, by simpa using HZ.out, HGZ.out⟩
    · simp only [List.concat_eq_append] at HD HR HL ⊢
      obtain ⟨a, c, c0, c1, hcell⟩ := HR.out.open
      obtain ⟨g, rfl, hg⟩ := hcell pre.length (by simp)
      simp only [List.length_append, List.length_cons, List.length_nil, List.getElem_concat_length, Nat.zero_add] at c0 hg
      clear hcell
      have hn : pre.length ≤ 100000 := by have := HL.out; simp at this; omega
      by_cases hx : x = 0
      · subst hx
        have e0 : (((0 : Nat) : Int) == 0) = true := rfl
        go_wp2_with fail
        go_quiet (fail)
        have HR1 : Hid (DecAt (wr.drewN nq) b (pre ++ [0]) dp) := HR
        have HG1 : Hid (w.grownBy (wr.drewN nq) (some b)) := Lib.hid (gb_drewN HG.out nq)
        have hc1 : (wr.drewN nq).cell? ⟨b, 0, none⟩ = some (.slice (some ⟨g, 0, none⟩) (pre.length + 1) c) := c0
        clear c0 c1 hg HR HG
        generalize wr.drewN nq = w1 at *
        have c0 := hc1
        have f0 := HR1.out.fr 0
        have HC := Lib.hid (HR1.out.cut (by simpa using hc1))
        have hcap : pre.length ≤ c := by have := HR1.out.cap hc1; simp at this; omega
        have hcap' : (pre.length : Int) ≤ (c : Int) := by omega
        have hcap0 : (0 : Int) ≤ (pre.length : Int) := by omega
        have hwr : IntKind.i64.wrap (pre.length : Int) = (pre.length : Int) := IntWalk.i64_in _ (by omega)
        clear hc1
        go_wp2_with fail
        go_region
        all_goals (
          clear hwr
          go_wp2_with fail
          go_roundg (pre.length)
          case measure => simp
          case rel => exact ⟨pre, r + 1, rfl, Lib.hid (by rw [HD.out, List.append_assoc]; rfl), HC, Lib.hid (gb_drew (gb_set HG1.out _ _))⟩)
      · have ex : ((x : Int) == 0) = false := beq_eq_false_iff_ne.2 (by omega)
        have HX := Lib.hid hx
        clear hx
        go_wp2_with fail
        go_quiet (fail)
        have HR1 : Hid (DecAt (wr.drewN nq) b (pre ++ [x]) dp) := HR
        have HG1 : Hid (w.grownBy (wr.drewN nq) (some b)) := Lib.hid (gb_drewN HG.out nq)
        have hc1 : (wr.drewN nq).cell? ⟨b, 0, none⟩ = some (.slice (some ⟨g, 0, none⟩) (pre.length + 1) c) := c0
        clear c0 c1 hg HR HG
        generalize wr.drewN nq = w1 at *
        have en : (((pre.length : Int) + 1) == 0) = false := beq_eq_false_iff_ne.2 (by omega)
        go_wp2_with fail
        go_ret
        exact ⟨pre ++ [x], r, HD.out, fun _ => by simpa using HX.out, rfl, by simpa using HR1.out, HG1.out⟩
end Go.Proofs.Ytjpcdbopioblaaa
