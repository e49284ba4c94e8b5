/- The reference's Vague walked: a good value has nothing that is not said. -/
import Derived.Test.YtjpcdbopioblaaaGreatDoorRowsW
namespace Go.Proofs.YtjpcdbopioblaaaGreatDoor
open Go.RowKit

def VaguePost (w : World) (e : Ending) (w' : World) : Prop := e = .returned (.bool false) ∧ Below w.heap.size w w'
/-- In a round: all that was there is as it was; the boxed argument lies in its block. -/
structure VagueS (w : World) (cs : Array Value) (wr : World) : Prop where
  below : Below w.heap.size w wr
  box : wr.heap[w.heap.size]? = some (.cells cs 27 (0, 0))
theorem VagueS.kept {w wr w' : World} {cs : Array Value} (h : VagueS w cs wr) (hb : Below wr.heap.size wr w') : VagueS w cs w' :=
  ⟨h.below.trans (hb.mono h.below.size), (hb.block _ (Array.getElem?_eq_some_iff.1 h.box).1).trans h.box⟩
theorem VagueS.cell {w wr : World} {cs : Array Value} (h : VagueS w cs wr) (j : Nat) : wr.cell? ⟨w.heap.size, j, none⟩ = cs[j]? := by simp [World.cell?, h.box]

set_option maxRecDepth 100000 in
set_option maxHeartbeats 3200000 in
theorem vague_all : ∀ (n : Nat) (x : RV) (v : Value) (w : World), x.nodes ≤ n → x.Good → x.Rep w v → Calls Tryz.prog 29 #[v] w (VaguePost w) := by
  intro n
  induction n with
  | zero => intro x v w hn; have := x.nodes_pos; omega
  | succ n ih =>
    intro x v w hn hg hr
    obtain ⟨k, h, t, l, ks, vs⟩ := x
    have HIH := Lib.hid ih
    obtain ⟨-, -, -, -, hk0, hk6, -, -, gl, gv⟩ := hg.rest
    have hnl : RV.nodesL l ≤ n ∧ RV.nodesL vs ≤ n := by unfold RV.nodes at hn; omega
    have HN := Lib.hid hnl
    have HG := Lib.hid (And.intro gl gv)
    unfold RV.Rep at hr
    obtain ⟨al, cl, ak, ck, av, cv, rfl, -, -, -, hll, -, hlv, hrl, -, hrv⟩ := hr
    have HL := Lib.hid hrl
    have HV := Lib.hid hrv
    unfold reachN at hll hlv
    clear hrl hrv ih hn hg gl gv hnl
    unfold VaguePost
    have H0 := Lib.hid (show VagueS w #[.int .i64 k, .int .i64 h, .string t, .slice al l.length cl, .slice ak ks.length ck, .slice av vs.length cv] (w.alloc (.cells #[.int .i64 k, .int .i64 h, .string t, .slice al l.length cl, .slice ak ks.length ck, .slice av vs.length cv] 27)) from ⟨(Below.refl _ _).alloc (Nat.le_refl _) _, heap_alloc_new _ _⟩)
    go_enter Tryz.func29, Tryz.ntmps29
    go_wp2_with fail
    go_loopg [10] (l.length) (fun gk s wr => ∃ i : Nat, s = .int .i64 i ∧ i ≤ l.length ∧ gk = l.length - i ∧ Hid (VagueS w #[.int .i64 k, .int .i64 h, .string t, .slice al l.length cl, .slice ak ks.length ck, .slice av vs.length cv] wr))
    case atStart => exact ⟨0, rfl, Nat.zero_le _, rfl, H0⟩
    case round =>
      obtain ⟨i, rfl, hi, rfl, HS⟩ := hrel
      by_cases hlt : i < l.length
      · obtain ⟨ab, ao, x0, x1, x2, x3, x4, x5, rfl, g0, g1, g2, g3, g4, g5, hra⟩ := (RV.RepL.below HS.out.below HL.out).get i hlt
        simp only [Nat.zero_add] at g0 g1 g2 g3 g4 g5
        obtain ⟨ek, eh, et, eal, em, ecl, eak, emk, eck, eav, emv, ecv, rfl, rfl, rfl, rfl, rfl, rfl⟩ := hra.shape
        have hj1 : (i : Int) < (l.length : Int) := by omega
        have HF := Lib.hid (fun wx (hb : Below wr.heap.size wr wx) => HIH.out l[i] _ wx (Nat.le_trans (RV.nodes_le hlt) HN.out.1) (HG.out.1.get i hlt) (hra.below hb))
        clear hi hra
        go_wp2_with fail
        refine (HF.out _ ((Below.refl _ _).alloc (Nat.le_refl _) _)).mono ?_
        rintro e w1 ⟨rfl, hb1⟩
        have HB1 := Lib.hid ((HS.out.kept ((Below.refl _ _).alloc (Nat.le_refl _) _)).kept hb1)
        clear hb1
        go_wp2_with fail
        go_roundg (l.length - (i + 1))
        case measure => omega
        case rel => exact ⟨i + 1, by go_num, by omega, rfl, HB1⟩
      · have q5 : wr.cell? ⟨w.heap.size, 5, none⟩ = some (.slice av vs.length cv) := (HS.out.cell 5).trans rfl
        have hil : i = l.length := by omega
        subst hil
        clear hi hlt
        go_wp2_with fail
        go_loopg [20] (vs.length) (fun gk s wr => ∃ i : Nat, s = .int .i64 i ∧ i ≤ vs.length ∧ gk = vs.length - i ∧ Hid (VagueS w #[.int .i64 k, .int .i64 h, .string t, .slice al l.length cl, .slice ak ks.length ck, .slice av vs.length cv] wr))
        case atStart => exact ⟨0, rfl, Nat.zero_le _, rfl, HS⟩
        case round =>
          rename_i wr1
          obtain ⟨i, rfl, hi, rfl, HS⟩ := hrel
          by_cases hlt : i < vs.length
          · obtain ⟨ab, ao, x0, x1, x2, x3, x4, x5, rfl, g0, g1, g2, g3, g4, g5, hra⟩ := (RV.RepL.below HS.out.below HV.out).get i hlt
            simp only [Nat.zero_add] at g0 g1 g2 g3 g4 g5
            obtain ⟨ek, eh, et, eal, em, ecl, eak, emk, eck, eav, emv, ecv, rfl, rfl, rfl, rfl, rfl, rfl⟩ := hra.shape
            have hj1 : (i : Int) < (vs.length : Int) := by omega
            have HF := Lib.hid (fun wx (hb : Below _ _ wx) => HIH.out vs[i] _ wx (Nat.le_trans (RV.nodes_le hlt) HN.out.2) (HG.out.2.get i hlt) (hra.below hb))
            clear hi hra
            go_wp2_with fail
            refine (HF.out _ ((Below.refl _ _).alloc (Nat.le_refl _) _)).mono ?_
            rintro e w1 ⟨rfl, hb1⟩
            have HB1 := Lib.hid ((HS.out.kept ((Below.refl _ _).alloc (Nat.le_refl _) _)).kept hb1)
            clear hb1
            go_wp2_with fail
            go_roundg (vs.length - (i + 1))
            case measure => omega
            case rel => exact ⟨i + 1, by go_num, by omega, rfl, HB1⟩
          · have r0 : _root_.Go.World.cell? _ ⟨w.heap.size, 0, none⟩ = some (.int .i64 k) := (HS.out.cell 0).trans rfl
            have k7 : (k == 7) = false := by simp; omega
            have hil : i = vs.length := by omega
            subst hil
            clear hi hlt q5
            go_wp2_with fail
            go_ret
            exact ⟨rfl, HS.out.below⟩
end Go.Proofs.YtjpcdbopioblaaaGreatDoor
