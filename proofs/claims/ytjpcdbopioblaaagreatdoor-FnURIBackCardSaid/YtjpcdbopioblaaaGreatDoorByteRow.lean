/- A slice of bytes of the call's own: a string behind it, and the string that it is. -/
import Derived.Test.YtjpcdbopioblaaaGreatDoorBase
import Derived.Lib.AppendStr
import Derived.Lib.BufferRead
import Derived.Laws.IdiomStrings
namespace Go.Proofs.YtjpcdbopioblaaaGreatDoor
open Go.RowKit

/-- The slice is the call's own and holds these bytes. -/
def BRow (base : Nat) (v : Value) (l : List UInt8) (w : World) : Prop := w.ownsRow base 5 1 v l.length (Lib.byteCells l)
theorem BRow.nil (base : Nat) (w : World) : BRow base (.slice none 0 0) [] w := World.ownsRow_nil w base _ 1
theorem BRow.shape {base : Nat} {v : Value} {l : List UInt8} {w : World} (h : BRow base v l w) : ∃ a c, v = .slice a l.length c := by
  rcases h.2 with ⟨e, h0⟩ | ⟨g, cp, cu, e, _⟩
  · exact ⟨none, 0, by rw [e, h0]⟩
  · exact ⟨_, _, e⟩
theorem BRow.drewN {base : Nat} {v : Value} {l : List UInt8} {w : World} (h : BRow base v l w) (n : Nat) : BRow base v l (w.drewN n) := h
set_option maxRecDepth 100000 in
theorem app_str {ops : Array Oper} {rest : List Oper} {o : Oper} {a : Act} {Q : Exit → Act → World → Prop} {w : World} (hgd : o.guard = none) (sl x : Operand)
    (ho : o.op = .call { callee := .builtin .append, args := #[sl, x], argTypes := #[58, 9] }) (base : Nat) (v : Value) (l : List UInt8) (hs : a.eval sl = v) (hown : BRow base v l w) (s : ByteArray) (hx : a.eval x = .string s)
    (hb : l.length + s.size ≤ 140737488355328) (hbase : base ≤ w.heap.size)
    (h : ∀ v' w', BRow base v' (l ++ s.data.toList) w' → Below base w w' → wpList Tryz.prog ops Q rest (a.put o.dst v') w') : wpList Tryz.prog ops Q (o :: rest) a w := by
  have hinfo : (Tryz.prog.info? 5).map (fun i => (i.zero, i.size, i.bytes)) = some (some (Value.int IntKind.u8 0), 1, 1) := by kernel_rfl
  obtain ⟨i, hi, he⟩ := Option.map_eq_some_iff.1 hinfo
  simp only [Prod.mk.injEq] at he
  refine Lib.wpList_append_own_string w hgd sl x _ _ ho base 5 i Tryz.underlying58 Tryz.underlying9 hi he.1 he.2.1 he.2.2 v l.length _ hs hown s hx (by unfold maxLen; omega) hb hbase ?_
  intro v' w' hown' hg _
  have hl : (l ++ s.data.toList).length = l.length + s.size := by rw [List.length_append, Array.length_toList]; rfl
  have hr : BRow base v' (l ++ s.data.toList) w' := by
    unfold BRow
    rw [hl]
    have e : Lib.byteCells (l ++ s.data.toList) = Lib.byteCells l ++ Lib.strCells s := by simp [Lib.byteCells, Lib.strCells]
    rw [e]
    exact hown'
  exact h v' w' hr ((Below.refl base w).grown hg hbase (fun g e => (hown.lt g e).1))

theorem wpList_convert_run {P : Program} {ops : Array Oper} {rest : List Oper} {o : Oper} {a : Act} {Q : Exit → Act → World → Prop} {w : World} (hgd : o.guard = none) (x : Operand) (t u : TypeId) (ho : o.op = .convert t u x) (v r : Value) (hx : a.eval x = v)
    (hr : (convert t u v).run P w = .ok r w) (h : wpList P ops Q rest (a.put o.dst r) w) : wpList P ops Q (o :: rest) a w := by
  refine wpList_plain hgd fun K hK => ?_
  unfold Oper.wp execOp
  simp only [ho, Sem.run_bind, Sem.run_pure, Result.andThen_ok, hx, hr]
  exact hK _ _ h

theorem row_text {base : Nat} {v : Value} {l : List UInt8} {w : World} (h : BRow base v l w) : (convert 58 9 v).run Tryz.prog w = .ok (.string ⟨l.toArray⟩) w := by
  obtain ⟨hl, ⟨rfl, h0⟩ | ⟨g, cap, cur, rfl, hb, hg, hn, hc, hcs, htk⟩⟩ := h
  · have : l = [] := List.eq_nil_of_length_eq_zero h0
    subst this
    exact Lib.run_convert_nil_bytes w _ _ 5 0 Tryz.underlying58 Tryz.underlying5 Tryz.underlying9
  · refine run_convert_bytes_back w _ _ 5 ⟨g, 0, none⟩ cap l Tryz.underlying58 Tryz.underlying5 Tryz.underlying9 (fun j hj => ?_)
    have h1 : (cur.toList.take (l.length * 1))[j]? = some (.int .u8 (l[j].toNat : Int)) := by
      rw [htk]; simp [Lib.byteCells, List.getElem?_eq_getElem hj]
    rw [List.getElem?_take_of_lt (by omega)] at h1
    have e : (⟨g, 0, none⟩ : Addr).add j = ⟨g, j, none⟩ := by unfold Addr.add; split <;> simp_all
    rw [e]
    simp only [World.cell?, hg]
    simpa using h1
end Go.Proofs.YtjpcdbopioblaaaGreatDoor
