/- Flattening, plainly: lists of trees; and the doubles of small whole numbers. -/
import Derived.Test.YtjpcdbopioblaaaDoorIndexList
namespace Go.Proofs.YtjpcdbopioblaaaDoor
open Go.RowKit

mutual
/-- What an element gives when the list that holds it is flattened so deep (below 0: all the way). -/
def RV.flat (d : Int) : RV → List RV
  | .mk k h t l ks vs => if k = 5 ∧ d ≠ 0 then RV.flatL (d - 1) l else [.mk k h t l ks vs]
def RV.flatL (d : Int) : List RV → List RV
  | [] => []
  | x :: xs => RV.flat d x ++ RV.flatL d xs
end
theorem flatL_append (d : Int) : ∀ (a b : List RV), RV.flatL d (a ++ b) = RV.flatL d a ++ RV.flatL d b
  | [], b => by simp [RV.flatL]
  | x :: xs, b => by simp only [List.cons_append, RV.flatL, flatL_append d xs b, List.append_assoc]
theorem flatL_snoc (d : Int) (a : List RV) (x : RV) : RV.flatL d (a ++ [x]) = RV.flatL d a ++ RV.flat d x := by
  rw [flatL_append]; simp [RV.flatL]
theorem flatL_take (d : Int) (l : List RV) (i : Nat) (h : i < l.length) : RV.flatL d (l.take (i + 1)) = RV.flatL d (l.take i) ++ RV.flat d l[i] := by
  rw [List.take_succ_eq_append_getElem h, flatL_snoc]

theorem nodesL_append (a b : List RV) : RV.nodesL (a ++ b) = RV.nodesL a + RV.nodesL b := by
  induction a with
  | nil => simp [RV.nodesL]
  | cons x xs ih => simp only [List.cons_append, RV.nodesL, ih]; omega
theorem bytesL_append (a b : List RV) : RV.bytesL (a ++ b) = RV.bytesL a + RV.bytesL b := by
  induction a with
  | nil => simp [RV.bytesL]
  | cons x xs ih => simp only [List.cons_append, RV.bytesL, ih]; omega

mutual
theorem flat_ok (d : Int) : ∀ (x : RV), (x.Good → RV.GoodL (x.flat d)) ∧ RV.nodesL (x.flat d) ≤ x.nodes ∧ RV.bytesL (x.flat d) ≤ x.bytes
  | .mk k h t l ks vs => by
    unfold RV.flat
    split
    · have := flatL_ok (d - 1) l
      refine ⟨fun g => this.1 g.rest.2.2.2.2.2.2.2.2.1, ?_, ?_⟩
      · unfold RV.nodes; omega
      · unfold RV.bytes; omega
    · refine ⟨fun g => ⟨g, trivial⟩, ?_, ?_⟩
      · simp [RV.nodesL]
      · simp [RV.bytesL]
theorem flatL_ok (d : Int) : ∀ (l : List RV), (RV.GoodL l → RV.GoodL (RV.flatL d l)) ∧ RV.nodesL (RV.flatL d l) ≤ RV.nodesL l ∧ RV.bytesL (RV.flatL d l) ≤ RV.bytesL l
  | [] => by simp [RV.flatL, RV.GoodL]
  | x :: xs => by
    have h1 := flat_ok d x
    have h2 := flatL_ok d xs
    unfold RV.flatL
    rw [nodesL_append, bytesL_append, RV.GoodL.append]
    refine ⟨fun g => ⟨h1.1 g.1, h2.1 g.2⟩, ?_, ?_⟩
    · simp only [RV.nodesL]; omega
    · simp only [RV.bytesL]; omega
end

theorem sub_all : ((List.range 1202).all fun i => floatBits .sub .f64 (floatOfInt .f64 ((i : Int) - 1000)) 4607182418800017408 == some (floatOfInt .f64 ((i : Int) - 1000 - 1))) = true := by decide +kernel
theorem float_sub_one (d : Int) (h1 : -1000 ≤ d) (h2 : d ≤ 200) : floatBits .sub .f64 (floatOfInt .f64 d) 4607182418800017408 = some (floatOfInt .f64 (d - 1)) := by
  have h := List.all_eq_true.1 sub_all (d + 1000).toNat (by simp; omega)
  have e : (((d + 1000).toNat : Nat) : Int) - 1000 = d := by omega
  rw [e] at h
  simpa using h
theorem order_all : ((List.range 1202).all fun i => (FloatKind.f64.format.order (floatOfInt .f64 ((i : Int) - 1000)) 0 == some .eq) == decide ((i : Int) - 1000 = 0)) = true := by decide +kernel
theorem float_zero (d : Int) (h1 : -1000 ≤ d) (h2 : d ≤ 200) : (FloatKind.f64.format.order (floatOfInt .f64 d) 0 == some .eq) = decide (d = 0) := by
  have h := List.all_eq_true.1 order_all (d + 1000).toNat (by simp; omega)
  have e : (((d + 1000).toNat : Nat) : Int) - 1000 = d := by omega
  rw [e] at h
  simpa using h
theorem run_float_neq {P : Program} (w : World) (t : TypeId) (k : FloatKind) (x y : Nat) : (binOp .neq t (.float k x) (.float k y)).run P w = .ok (.bool (!(k.format.order x y == some .eq))) w := by
  simp [binOp, Op.floatCmp]
  rfl
end Go.Proofs.YtjpcdbopioblaaaDoor
