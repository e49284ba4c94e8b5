/- A decimal in memory; 'digit', 'cmp' and 'trim' walked. -/
import Derived.Test.YtjpcdbopioblaaaDecHalf
import Derived.BigQuiet
import Derived.Deep.QuietTactic
import Derived.Deep.DeepCutAuto
import Derived.Deep.CutBlock
import Derived.Deep.LoopGhost
import Derived.Lib.Hide
namespace Go.Proofs.Ytjpcdbopioblaaa
open Go.RowKit

/-- A slice of digits. -/
def DRow (W : World) (v : Value) (ds : List Nat) : Prop := ∃ a c, v = .slice a ds.length c ∧ ds.length ≤ c ∧ ∀ j (h : j < ds.length), ∃ g, a = some ⟨g, 0, none⟩ ∧ W.cell? ⟨g, j, none⟩ = some (.int .u8 (ds[j] : Nat))
/-- A decimal in block b. -/
def DecAt (W : World) (b : Nat) (ds : List Nat) (dp : Int) : Prop := ∃ v, W.heap[b]? = some (.cells #[v, .int .i64 dp] 62 (0, 0)) ∧ DRow W v ds
theorem DecAt.lt {W : World} {b : Nat} {ds : List Nat} {dp : Int} (h : DecAt W b ds dp) : b < W.heap.size := by obtain ⟨v, hb, _⟩ := h; exact lt_of_block hb
theorem DRow.kept {W W' : World} {v : Value} {ds : List Nat} (h : DRow W v ds) (hb : Below W.heap.size W W') : DRow W' v ds := by
  obtain ⟨a, c, e, hle, hc⟩ := h
  refine ⟨a, c, e, hle, fun j hj => ?_⟩
  obtain ⟨g, e2, hg⟩ := hc j hj
  exact ⟨g, e2, (hb.cell (p := ⟨g, j, none⟩) (cell_lt hg)).trans hg⟩
theorem DecAt.kept {W W' : World} {b : Nat} {ds : List Nat} {dp : Int} (h : DecAt W b ds dp) (hb : Below W.heap.size W W') : DecAt W' b ds dp := by
  have hlt := h.lt
  obtain ⟨v, hv, hr⟩ := h
  exact ⟨v, (hb.block b hlt).trans hv, hr.kept hb⟩
theorem DecAt.open {W : World} {b : Nat} {ds : List Nat} {dp : Int} (h : DecAt W b ds dp) : ∃ a c, W.cell? ⟨b, 0, none⟩ = some (.slice a ds.length c) ∧ W.cell? ⟨b, 1, none⟩ = some (.int .i64 dp) ∧ ∀ j (h : j < ds.length), ∃ g, a = some ⟨g, 0, none⟩ ∧ W.cell? ⟨g, j, none⟩ = some (.int .u8 (ds[j] : Nat)) := by
  obtain ⟨v, hv, a, c, rfl, _, hr⟩ := h
  exact ⟨a, c, by simp [World.cell?, hv], by simp [World.cell?, hv], hr⟩
theorem DecAt.cap {W : World} {b : Nat} {ds : List Nat} {dp : Int} (h : DecAt W b ds dp) {a : Option Addr} {n c : Nat} (h0 : W.cell? ⟨b, 0, none⟩ = some (.slice a n c)) : ds.length ≤ c := by
  obtain ⟨v, hv, a', c', rfl, hle, _⟩ := h
  have e0 : W.cell? ⟨b, 0, none⟩ = some (.slice a' ds.length c') := by simp [World.cell?, hv]
  rw [h0] at e0
  simp only [Option.some.injEq, Value.slice.injEq] at e0
  omega
theorem DecAt.fr {W : World} {b : Nat} {ds : List Nat} {dp : Int} (h : DecAt W b ds dp) (o : Nat) : W.frozen? ⟨b, o, none⟩ = false := by obtain ⟨v, hv, _⟩ := h; simp [World.frozen?, hv]
theorem gb_drewN {a b : World} {row : Option Nat} (h : a.grownBy b row) (n : Nat) : a.grownBy (b.drewN n) row := ⟨h.os, h.tape, h.output, h.size, h.block⟩
theorem DecAt.drewN {W : World} {b : Nat} {ds : List Nat} {dp : Int} (h : DecAt W b ds dp) (n : Nat) : DecAt (W.drewN n) b ds dp := h

set_option maxRecDepth 100000 in
set_option maxHeartbeats 800000 in
theorem digit_any (b : Nat) (ds : List Nat) (dp : Int) (i : Nat) (w : World) (h : DecAt w b ds dp) :
    Calls Try.prog 34 #[.pointer (some ⟨b, 0, none⟩), .int .i64 i] w fun e w' => e = .returned (.int .u8 (ds.getD i 0 : Nat)) ∧ w' = w := by
  obtain ⟨a, c, c0, c1, hc⟩ := h.open
  clear h
  by_cases hlt : i < ds.length
  · obtain ⟨g, rfl, hg⟩ := hc i hlt
    have hj : (i : Int) < (ds.length : Int) := by omega
    have e : ds.getD i 0 = ds[i] := by rw [List.getD_eq_getElem?_getD, List.getElem?_eq_getElem hlt]; rfl
    rw [e]
    generalize ds[i] = d at *
    clear hc e
    go_enter Try.func34, Try.ntmps34
    go_wp2_with fail
    go_ret
    exact ⟨rfl, rfl⟩
  · have hj : ¬ ((i : Int) < (ds.length : Int)) := by omega
    have e : ds.getD i 0 = 0 := by rw [List.getD_eq_getElem?_getD, List.getElem?_eq_none (by omega)]; rfl
    rw [e]
    clear hc e
    go_enter Try.func34, Try.ntmps34
    go_wp2_with fail
    go_ret
    exact ⟨rfl, rfl⟩

/-- What 'cmp' tells: not above 0 only where the first one is not greater. -/
def CmpPost (A B : List Nat) (a b : Int) (w : World) (e : Ending) (w' : World) : Prop := ∃ c : Int, e = .returned (.int .i64 c) ∧ Below w.heap.size w w' ∧ -1000000 ≤ c ∧ c ≤ 1000000 ∧ (0 < c ∨ (A = [] ∨ LeD A a.toNat B b.toNat))
set_option maxRecDepth 100000 in
set_option maxHeartbeats 1600000 in
theorem cmp_any (ba bb : Nat) (A B : List Nat) (a b : Int) (w : World) (hA : DecAt w ba A a) (hB : DecAt w bb B b) (hlA : A.length ≤ 100000) (hlB : B.length ≤ 100000) (ha : 0 ≤ a ∧ a ≤ 100000) (hb : 0 ≤ b ∧ b ≤ 100000) (dA : Digs A) (dB : Digs B) (fB : B ≠ [] → B.getD 0 0 ≠ 0) :
    Calls Try.prog 32 #[.pointer (some ⟨ba, 0, none⟩), .pointer (some ⟨bb, 0, none⟩)] w (CmpPost A B a b w) := by
  have HA := Lib.hid hA
  have HB := Lib.hid hB
  obtain ⟨sa, ca, a0, a1, -⟩ := hA.open
  obtain ⟨sb, cb, b0, b1, -⟩ := hB.open
  have HD := Lib.hid (And.intro dA (And.intro dB fB))
  clear hA hB dA dB fB
  unfold CmpPost
  by_cases hA0 : A.length = 0
  · have e1 : ((A.length : Int) == 0) = true := by rw [hA0]; rfl
    go_enter Try.func32, Try.ntmps32
    go_wp2_with fail
    go_quiet (fail)
    go_wp2_with fail
    go_ret
    refine ⟨_, rfl, ⟨rfl, rfl, rfl, Nat.le_refl _, fun _ _ => rfl⟩, ?_, ?_, .inr (.inl (List.eq_nil_of_length_eq_zero hA0))⟩ <;> omega
  · have e1 : ((A.length : Int) == 0) = false := beq_eq_false_iff_ne.2 (by omega)
    by_cases hB0 : B.length = 0
    · have e2 : ((B.length : Int) == 0) = true := by rw [hB0]; rfl
      go_enter Try.func32, Try.ntmps32
      go_wp2_with fail
      go_quiet (fail)
      go_wp2_with fail
      go_ret
      refine ⟨_, rfl, ⟨rfl, rfl, rfl, Nat.le_refl _, fun _ _ => rfl⟩, ?_, ?_, .inl ?_⟩ <;> omega
    · have e2 : ((B.length : Int) == 0) = false := beq_eq_false_iff_ne.2 (by omega)
      have HB0 : Hid (B ≠ []) := Lib.hid fun e => hB0 (by rw [e]; rfl)
      by_cases hab : a = b
      · subst hab
        have e3 : (a != a) = false := by simp
        clear hA0 hB0
        go_enter Try.func32, Try.ntmps32
        go_wp2_with fail
        go_quiet (fail)
        have HA1 : Hid (DecAt (w.drewN nq) ba A a) := HA
        have HB1 : Hid (DecAt (w.drewN nq) bb B a) := HB
        have HW : Hid (Below w.heap.size w (w.drewN nq)) := Lib.hid ⟨rfl, rfl, rfl, Nat.le_refl _, fun _ _ => rfl⟩
        clear a0 a1 b0 b1 HA HB
        generalize w.drewN nq = w1 at *
        obtain ⟨sa, ca, a0, a1, -⟩ := HA1.out.open
        obtain ⟨sb, cb, b0, b1, -⟩ := HB1.out.open
        go_wp2_with fail
        go_loopg [5] (A.length + B.length) (fun gk s5 wr => ∃ i : Nat, s5 = .int .i64 i ∧ i ≤ A.length + B.length ∧ gk = A.length + B.length - i ∧ wr = w1 ∧ Hid (numP A i = numP B i))
        case atStart => exact ⟨0, rfl, Nat.zero_le _, rfl, rfl, Lib.hid rfl⟩
        case round =>
          obtain ⟨i, rfl, hi, rfl, rfl, HE⟩ := hrel
          by_cases hlt : i < A.length ∨ i < B.length
          · have HLT : Hid (i < A.length + B.length) := Lib.hid (by omega)
            have hgA := HD.out.1.getD i
            have hgB := HD.out.2.1.getD i
            have hguard : (decide ((i : Int) < (A.length : Int)) || decide ((i : Int) < (B.length : Int))) = true := by simp; omega
            have HGA := Lib.hid fun wx h => digit_any ba A a i wx h
            have HGB := Lib.hid fun wx h => digit_any bb B a i wx h
            have HDG := Lib.hid fun h => leD_digit (a := a.toNat) HD.out.1 HD.out.2.1 HE.out h
            have HST : Hid (A.getD i 0 = B.getD i 0 → numP A (i + 1) = numP B (i + 1)) := Lib.hid fun h => by show 10 * numP A i + _ = 10 * numP B i + _; rw [HE.out, h]
            generalize A.getD i 0 = x at *
            generalize B.getD i 0 = y at *
            clear hguard
            by_cases hxy : x = y
            · subst hxy
              have exy : ((x : Int) != (x : Int)) = false := by simp
              by_cases hla : i < A.length
              · have hj : (i : Int) < (A.length : Int) := by omega
                clear hlt hla
                go_wp2_with fail
                refine (HGA.out _ HA1.out).mono ?_
                rintro e w2 ⟨rfl, rfl⟩
                go_wp2_with fail
                refine (HGB.out _ HB1.out).mono ?_
                rintro e w2 ⟨rfl, rfl⟩
                go_wp2_with fail
                go_roundg (A.length + B.length - (i + 1))
                case measure => have := HLT.out; omega
                case rel => exact ⟨i + 1, by go_num, by have := HLT.out; omega, rfl, rfl, Lib.hid (HST.out (by simp))⟩
              · have hj : ¬ ((i : Int) < (A.length : Int)) := by omega
                have hjb : (i : Int) < (B.length : Int) := by omega
                clear hlt hla
                go_wp2_with fail
                refine (HGA.out _ HA1.out).mono ?_
                rintro e w2 ⟨rfl, rfl⟩
                go_wp2_with fail
                refine (HGB.out _ HB1.out).mono ?_
                rintro e w2 ⟨rfl, rfl⟩
                go_wp2_with fail
                go_roundg (A.length + B.length - (i + 1))
                case measure => have := HLT.out; omega
                case rel => exact ⟨i + 1, by go_num, by have := HLT.out; omega, rfl, rfl, Lib.hid (HST.out (by simp))⟩
            · have exy : ((x : Int) != (y : Int)) = true := by simp; omega
              have HXY := Lib.hid hxy
              clear hxy
              by_cases hla : i < A.length
              · have hj : (i : Int) < (A.length : Int) := by omega
                clear hlt hla
                go_wp2_with fail
                refine (HGA.out _ HA1.out).mono ?_
                rintro e w2 ⟨rfl, rfl⟩
                go_wp2_with fail
                refine (HGB.out _ HB1.out).mono ?_
                rintro e w2 ⟨rfl, rfl⟩
                go_wp2_with fail
                refine (HGA.out _ HA1.out).mono ?_
                rintro e w2 ⟨rfl, rfl⟩
                go_wp2_with fail
                refine (HGB.out _ HB1.out).mono ?_
                rintro e w2 ⟨rfl, rfl⟩
                go_wp2_with fail
                go_ret
                refine ⟨_, rfl, HW.out, ?_, ?_, ?_⟩
                · omega
                · omega
                · rcases Nat.lt_or_gt_of_ne HXY.out with h | h
                  · exact .inr (.inr (HDG.out h))
                  · exact .inl (by omega)
              · have hj : ¬ ((i : Int) < (A.length : Int)) := by omega
                have hjb : (i : Int) < (B.length : Int) := by omega
                clear hlt hla
                go_wp2_with fail
                refine (HGA.out _ HA1.out).mono ?_
                rintro e w2 ⟨rfl, rfl⟩
                go_wp2_with fail
                refine (HGB.out _ HB1.out).mono ?_
                rintro e w2 ⟨rfl, rfl⟩
                go_wp2_with fail
                refine (HGA.out _ HA1.out).mono ?_
                rintro e w2 ⟨rfl, rfl⟩
                go_wp2_with fail
                refine (HGB.out _ HB1.out).mono ?_
                rintro e w2 ⟨rfl, rfl⟩
                go_wp2_with fail
                go_ret
                refine ⟨_, rfl, HW.out, ?_, ?_, ?_⟩
                · omega
                · omega
                · rcases Nat.lt_or_gt_of_ne HXY.out with h | h
                  · exact .inr (.inr (HDG.out h))
                  · exact .inl (by omega)
          · have hj1 : ¬ ((i : Int) < (A.length : Int)) := by omega
            have hj2 : ¬ ((i : Int) < (B.length : Int)) := by omega
            have HL := Lib.hid (leD_same (A := A) (B := B) (a := a.toNat) (n := i) (by omega) (by omega) HE.out)
            clear hlt
            go_wp2_with fail
            go_ret
            exact ⟨0, rfl, HW.out, by omega, by omega, .inr (.inr HL.out)⟩
      · have e3 : (a != b) = true := by simp [hab]
        have hA1 := HA.out
        have hB1 := HB.out
        go_enter Try.func32, Try.ntmps32
        go_wp2_with fail
        go_quiet (fail)
        go_wp2_with fail
        go_quiet (fail)
        go_wp2_with fail
        go_ret
        refine ⟨_, rfl, ⟨rfl, rfl, rfl, Nat.le_refl _, fun _ _ => rfl⟩, ?_, ?_, ?_⟩
        · omega
        · omega
        · rcases Int.lt_or_gt_of_ne hab with h | h
          · exact .inr (.inr (leD_dp HD.out.1 HD.out.2.1 (HD.out.2.2 HB0.out) (by omega)))
          · exact .inl (by omega)
end Go.Proofs.Ytjpcdbopioblaaa
