/- 'x, y, z := spec.Get(a, k), spec.Get(b, k), r.Val.Vals[i]': the calls and the three new variables, in whatever order. -/
import Derived.Test.YtjpcdbopioblaaaDoorRegionInv
import Derived.Test.YtjpcdbopioblaaaDoorSpecGet
namespace Go.Proofs.YtjpcdbopioblaaaDoor
open Go.RowKit

/-- The listing: the loads have come up; the two calls, the three variables, or not. -/
def L5 (c1 c2 d8 d9 d10 : Bool) : Array Bool := #[true, true, c1, true, true, c2, true, true, true, true, true, true, d8, d9, d10, false, false, false]
def rs5 (c1 c2 d8 d9 d10 : Bool) : List Nat := (if c1 then (if c2 then [] else [5]) else [2]) ++ (if d8 then [] else [12]) ++ (if d9 then [] else [13]) ++ (if d10 then [] else [14])
def puts5 (a : Act) (x8 x9 x10 x59 x62 : Value) : Act := { tmps := ((((a.tmps.setIfInBounds 8 x8).setIfInBounds 9 x9).setIfInBounds 10 x10).setIfInBounds 59 x59).setIfInBounds 62 x62, defers := a.defers }
theorem set_get (t : Array Value) (x8 x9 x10 x59 x62 : Value) (i : Nat) (hi : i ≠ 8 ∧ i ≠ 9 ∧ i ≠ 10 ∧ i ≠ 59 ∧ i ≠ 62) : (((((t.setIfInBounds 8 x8).setIfInBounds 9 x9).setIfInBounds 10 x10).setIfInBounds 59 x59).setIfInBounds 62 x62)[i]? = t[i]? := by
  rw [Array.getElem?_setIfInBounds_ne (by omega), Array.getElem?_setIfInBounds_ne (by omega), Array.getElem?_setIfInBounds_ne (by omega), Array.getElem?_setIfInBounds_ne (by omega), Array.getElem?_setIfInBounds_ne (by omega)]
theorem arr_8 (t : Array Value) (x8 x9 x10 x59 x62 v : Value) : (((((t.setIfInBounds 8 x8).setIfInBounds 9 x9).setIfInBounds 10 x10).setIfInBounds 59 x59).setIfInBounds 62 x62).setIfInBounds 8 v = (((((t.setIfInBounds 8 v).setIfInBounds 9 x9).setIfInBounds 10 x10).setIfInBounds 59 x59).setIfInBounds 62 x62) := by
  rw [Array.setIfInBounds_comm _ _ (show (62 : Nat) ≠ 8 by decide), Array.setIfInBounds_comm _ _ (show (59 : Nat) ≠ 8 by decide), Array.setIfInBounds_comm _ _ (show (10 : Nat) ≠ 8 by decide), Array.setIfInBounds_comm _ _ (show (9 : Nat) ≠ 8 by decide), Array.setIfInBounds_setIfInBounds]
theorem puts_8 (a : Act) (x8 x9 x10 x59 x62 v : Value) : (puts5 a x8 x9 x10 x59 x62).put (some 8) v = puts5 a v x9 x10 x59 x62 := by
  simp only [puts5, Act.put, arr_8]
theorem arr_9 (t : Array Value) (x8 x9 x10 x59 x62 v : Value) : (((((t.setIfInBounds 8 x8).setIfInBounds 9 x9).setIfInBounds 10 x10).setIfInBounds 59 x59).setIfInBounds 62 x62).setIfInBounds 9 v = (((((t.setIfInBounds 8 x8).setIfInBounds 9 v).setIfInBounds 10 x10).setIfInBounds 59 x59).setIfInBounds 62 x62) := by
  rw [Array.setIfInBounds_comm _ _ (show (62 : Nat) ≠ 9 by decide), Array.setIfInBounds_comm _ _ (show (59 : Nat) ≠ 9 by decide), Array.setIfInBounds_comm _ _ (show (10 : Nat) ≠ 9 by decide), Array.setIfInBounds_setIfInBounds]
theorem puts_9 (a : Act) (x8 x9 x10 x59 x62 v : Value) : (puts5 a x8 x9 x10 x59 x62).put (some 9) v = puts5 a x8 v x10 x59 x62 := by
  simp only [puts5, Act.put, arr_9]
theorem arr_10 (t : Array Value) (x8 x9 x10 x59 x62 v : Value) : (((((t.setIfInBounds 8 x8).setIfInBounds 9 x9).setIfInBounds 10 x10).setIfInBounds 59 x59).setIfInBounds 62 x62).setIfInBounds 10 v = (((((t.setIfInBounds 8 x8).setIfInBounds 9 x9).setIfInBounds 10 v).setIfInBounds 59 x59).setIfInBounds 62 x62) := by
  rw [Array.setIfInBounds_comm _ _ (show (62 : Nat) ≠ 10 by decide), Array.setIfInBounds_comm _ _ (show (59 : Nat) ≠ 10 by decide), Array.setIfInBounds_setIfInBounds]
theorem puts_10 (a : Act) (x8 x9 x10 x59 x62 v : Value) : (puts5 a x8 x9 x10 x59 x62).put (some 10) v = puts5 a x8 x9 v x59 x62 := by
  simp only [puts5, Act.put, arr_10]
theorem arr_59 (t : Array Value) (x8 x9 x10 x59 x62 v : Value) : (((((t.setIfInBounds 8 x8).setIfInBounds 9 x9).setIfInBounds 10 x10).setIfInBounds 59 x59).setIfInBounds 62 x62).setIfInBounds 59 v = (((((t.setIfInBounds 8 x8).setIfInBounds 9 x9).setIfInBounds 10 x10).setIfInBounds 59 v).setIfInBounds 62 x62) := by
  rw [Array.setIfInBounds_comm _ _ (show (62 : Nat) ≠ 59 by decide), Array.setIfInBounds_setIfInBounds]
theorem puts_59 (a : Act) (x8 x9 x10 x59 x62 v : Value) : (puts5 a x8 x9 x10 x59 x62).put (some 59) v = puts5 a x8 x9 x10 v x62 := by
  simp only [puts5, Act.put, arr_59]
theorem arr_62 (t : Array Value) (x8 x9 x10 x59 x62 v : Value) : (((((t.setIfInBounds 8 x8).setIfInBounds 9 x9).setIfInBounds 10 x10).setIfInBounds 59 x59).setIfInBounds 62 x62).setIfInBounds 62 v = (((((t.setIfInBounds 8 x8).setIfInBounds 9 x9).setIfInBounds 10 x10).setIfInBounds 59 x59).setIfInBounds 62 v) := by
  rw [Array.setIfInBounds_setIfInBounds]
theorem puts_62 (a : Act) (x8 x9 x10 x59 x62 v : Value) : (puts5 a x8 x9 x10 x59 x62).put (some 62) v = puts5 a x8 x9 x10 x59 v := by
  simp only [puts5, Act.put, arr_62]
/-- A new variable of type impl.Value. -/
def zeroV : Array Value := #[.int .i64 0, .int .i64 0, .string ⟨#[]⟩, .slice none 0 0, .slice none 0 0, .slice none 0 0]
def NewV (B : Nat) (W : World) (p : Nat) : Prop := B ≤ p ∧ W.heap[p]? = some (.cells zeroV 26 (0, 0))
theorem NewV.kept {B : Nat} {W W' : World} {p : Nat} (h : NewV B W p) (hb : Below W.heap.size W W') : NewV B W' p := ⟨h.1, (hb.block p (Array.getElem?_eq_some_iff.1 h.2).1).trans h.2⟩
/-- What Get gives. -/
def Got (t : RV) (key : ByteArray) (W0 : World) (v : Value) : Prop := ∃ y, y.Rep W0 v ∧ (t.AtR key y ∨ (key ∉ t.keys ∧ y = nilR))
/-- What holds in each state. -/
structure I5 (A B : RV) (key : ByteArray) (base : Nat) (W0 : World) (a1 : Act) (c1 c2 d8 d9 d10 : Bool) (a : Act) (W : World) (x8 x9 x10 x59 x62 : Value) (p8 p9 p10 : Nat) : Prop where
  act : a = puts5 a1 x8 x9 x10 x59 x62
  below : Below base W0 W
  hb0 : base ≤ W.heap.size
  ord : c2 = true → c1 = true
  n8 : d8 = true → x8 = .pointer (some ⟨p8, 0, none⟩) ∧ NewV base W p8
  n9 : d9 = true → x9 = .pointer (some ⟨p9, 0, none⟩) ∧ NewV base W p9
  n10 : d10 = true → x10 = .pointer (some ⟨p10, 0, none⟩) ∧ NewV base W p10
  n89 : d8 = true → d9 = true → p8 ≠ p9
  n80 : d8 = true → d10 = true → p8 ≠ p10
  n90 : d9 = true → d10 = true → p9 ≠ p10
  g1 : c1 = true → Got A key W0 x59
  g2 : c2 = true → Got B key W0 x62
theorem I5.kept {A B : RV} {key : ByteArray} {base : Nat} {W0 : World} {a1 : Act} {c1 c2 d8 d9 d10 : Bool} {a : Act} {W W' : World} {x8 x9 x10 x59 x62 : Value} {p8 p9 p10 : Nat} (h : I5 A B key base W0 a1 c1 c2 d8 d9 d10 a W x8 x9 x10 x59 x62 p8 p9 p10) (hb : Below W.heap.size W W') : I5 A B key base W0 a1 c1 c2 d8 d9 d10 a W' x8 x9 x10 x59 x62 p8 p9 p10 :=
  ⟨h.act, h.below.trans (hb.mono h.hb0), Nat.le_trans h.hb0 hb.size, h.ord, fun e => ⟨(h.n8 e).1, (h.n8 e).2.kept hb⟩, fun e => ⟨(h.n9 e).1, (h.n9 e).2.kept hb⟩, fun e => ⟨(h.n10 e).1, (h.n10 e).2.kept hb⟩, h.n89, h.n80, h.n90, h.g1, h.g2⟩
theorem alloc_run (w : World) : (Instr.alloc 26 true (.tuple #[])).run Tryd.prog w = .ok (.pointer (some ⟨w.heap.size, 0, none⟩)) (w.alloc (.cells zeroV 26)) := by kernel_rfl
theorem NewV.lt {B : Nat} {W : World} {p : Nat} (h : NewV B W p) : p < W.heap.size := (Array.getElem?_eq_some_iff.1 h.2).1

theorem eval_tmp (a : Act) (n : Nat) (v : Value) (h : a.tmps[n]? = some v) : a.eval (.tmp n) = v := by
  simp [Act.eval, h]
theorem get5 (a1 : Act) (n : Nat) (y8 y9 y10 y59 y62 : Value) (hn : n ≠ 8 ∧ n ≠ 9 ∧ n ≠ 10 ∧ n ≠ 59 ∧ n ≠ 62) : (puts5 a1 y8 y9 y10 y59 y62).tmps[n]? = a1.tmps[n]? := by
  simp only [puts5]
  rw [set_get _ _ _ _ _ _ _ hn]
theorem ev5 {a1 : Act} {n : Nat} {v y8 y9 y10 y59 y62 : Value} (hn : n ≠ 8 ∧ n ≠ 9 ∧ n ≠ 10 ∧ n ≠ 59 ∧ n ≠ 62) (he : a1.tmps[n]? = some v) : (puts5 a1 y8 y9 y10 y59 y62).eval (.tmp n) = v :=
  eval_tmp _ _ _ ((get5 a1 n y8 y9 y10 y59 y62 hn).trans he)
attribute [irreducible] puts5
/-- Some state. -/
def St5 (A B : RV) (key : ByteArray) (base : Nat) (W0 : World) (a1 : Act) (c1 c2 d8 d9 d10 : Bool) (a : Act) (W : World) : Prop := ∃ x8 x9 x10 x59 x62 p8 p9 p10, I5 A B key base W0 a1 c1 c2 d8 d9 d10 a W x8 x9 x10 x59 x62 p8 p9 p10
section
variable {ops : Array Oper} {Q : Exit → Act → World → Prop} {A B : RV} {key : ByteArray} {base : Nat} {W0 : World} {a1 : Act} {o : Oper} {c1 c2 d8 d9 d10 : Bool} {a : Act} {W : World}
theorem get_enters (args : Array Value) (w : World) : (callFunc 27 args).run Tryd.prog w = .ok (.enter 27 args) w := enters_of Tryd.func27 (by kernel_rfl) rfl args w
theorem step_g1 {vA : Value} (h2 : ops[2]? = some o) (p2 : o.op = .call { callee := .value (.func 27), args := #[.tmp 57, .tmp 58], argTypes := #[26, 9] }) (q2 : o.guard = none) (r2 : o.dst = some 59)
    (e57 : a1.tmps[57]? = some vA) (e58 : a1.tmps[58]? = some (.string key)) (hA : A.Rep W0 vA) (gA : A.Good) (hbase : base = W0.heap.size) (h : St5 A B key base W0 a1 false false d8 d9 d10 a W) :
    wpOp Tryd.prog ops Q 2 (fun a' W' => Below base W0 W' ∧ St5 A B key base W0 a1 true false d8 d9 d10 a' W') a W := by
  obtain ⟨x8, x9, x10, x59, x62, p8, p9, p10, h⟩ := h
  have hact := h.act
  have hx : a.eval (.tmp 57) = vA := by rw [hact]; exact ev5 (by decide) e57
  have hy : a.eval (.tmp 58) = .string key := by rw [hact]; exact ev5 (by decide) e58
  refine op_call2 h2 p2 q2 hx hy get_enters ?_
  refine (get_any A vA key W0 W hA gA (hbase ▸ h.below)).mono fun e w' he => ?_
  obtain ⟨v, y, he, hy, hb, hor⟩ := he
  refine ⟨v, he, ?_⟩
  have hk := h.kept hb
  rw [hact, r2, puts_59]
  exact ⟨hk.below, x8, x9, x10, v, x62, p8, p9, p10, ⟨rfl, hk.below, hk.hb0, fun _ => rfl, hk.n8, hk.n9, hk.n10, hk.n89, hk.n80, hk.n90, fun _ => ⟨y, hy, hor⟩, hk.g2⟩⟩
theorem step_g2 {vB : Value} (h5 : ops[5]? = some o) (p5 : o.op = .call { callee := .value (.func 27), args := #[.tmp 60, .tmp 61], argTypes := #[26, 9] }) (q5 : o.guard = none) (r5 : o.dst = some 62)
    (e60 : a1.tmps[60]? = some vB) (e61 : a1.tmps[61]? = some (.string key)) (hB : B.Rep W0 vB) (gB : B.Good) (hbase : base = W0.heap.size) (h : St5 A B key base W0 a1 true false d8 d9 d10 a W) :
    wpOp Tryd.prog ops Q 5 (fun a' W' => Below base W0 W' ∧ St5 A B key base W0 a1 true true d8 d9 d10 a' W') a W := by
  obtain ⟨x8, x9, x10, x59, x62, p8, p9, p10, h⟩ := h
  have hact := h.act
  have hx : a.eval (.tmp 60) = vB := by rw [hact]; exact ev5 (by decide) e60
  have hy : a.eval (.tmp 61) = .string key := by rw [hact]; exact ev5 (by decide) e61
  refine op_call2 h5 p5 q5 hx hy get_enters ?_
  refine (get_any B vB key W0 W hB gB (hbase ▸ h.below)).mono fun e w' he => ?_
  obtain ⟨v, y, he, hy, hb, hor⟩ := he
  refine ⟨v, he, ?_⟩
  have hk := h.kept hb
  rw [hact, r5, puts_62]
  exact ⟨hk.below, x8, x9, x10, x59, v, p8, p9, p10, ⟨rfl, hk.below, hk.hb0, fun _ => rfl, hk.n8, hk.n9, hk.n10, hk.n89, hk.n80, hk.n90, hk.g1, fun _ => ⟨y, hy, hor⟩⟩⟩
theorem step_8 (h12 : ops[12]? = some o) (p12 : o.op = .alloc 26) (q12 : o.guard = none) (r12 : o.dst = some 8) (h : St5 A B key base W0 a1 c1 c2 false d9 d10 a W) :
    wpOp Tryd.prog ops Q 12 (fun a' W' => Below base W0 W' ∧ St5 A B key base W0 a1 c1 c2 true d9 d10 a' W') a W := by
  obtain ⟨x8, x9, x10, x59, x62, p8, p9, p10, h⟩ := h
  have hact := h.act
  refine op_alloc h12 p12 q12 (alloc_run W) ?_
  have hk := h.kept ((Below.refl _ W).alloc (Nat.le_refl _) (.cells zeroV 26))
  rw [hact, r12, puts_8]
  exact ⟨hk.below, _, x9, x10, x59, x62, W.heap.size, p9, p10, ⟨rfl, hk.below, hk.hb0, hk.ord, fun _ => ⟨rfl, h.hb0, heap_alloc_new W _⟩, hk.n9, hk.n10, fun _ e => Nat.ne_of_gt (h.n9 e).2.lt, fun _ e => Nat.ne_of_gt (h.n10 e).2.lt, hk.n90, hk.g1, hk.g2⟩⟩
theorem step_9 (h13 : ops[13]? = some o) (p13 : o.op = .alloc 26) (q13 : o.guard = none) (r13 : o.dst = some 9) (h : St5 A B key base W0 a1 c1 c2 d8 false d10 a W) :
    wpOp Tryd.prog ops Q 13 (fun a' W' => Below base W0 W' ∧ St5 A B key base W0 a1 c1 c2 d8 true d10 a' W') a W := by
  obtain ⟨x8, x9, x10, x59, x62, p8, p9, p10, h⟩ := h
  have hact := h.act
  refine op_alloc h13 p13 q13 (alloc_run W) ?_
  have hk := h.kept ((Below.refl _ W).alloc (Nat.le_refl _) (.cells zeroV 26))
  rw [hact, r13, puts_9]
  exact ⟨hk.below, x8, _, x10, x59, x62, p8, W.heap.size, p10, ⟨rfl, hk.below, hk.hb0, hk.ord, hk.n8, fun _ => ⟨rfl, h.hb0, heap_alloc_new W _⟩, hk.n10, fun e _ => Nat.ne_of_lt (h.n8 e).2.lt, hk.n80, fun _ e => Nat.ne_of_gt (h.n10 e).2.lt, hk.g1, hk.g2⟩⟩
theorem step_10 (h14 : ops[14]? = some o) (p14 : o.op = .alloc 26) (q14 : o.guard = none) (r14 : o.dst = some 10) (h : St5 A B key base W0 a1 c1 c2 d8 d9 false a W) :
    wpOp Tryd.prog ops Q 14 (fun a' W' => Below base W0 W' ∧ St5 A B key base W0 a1 c1 c2 d8 d9 true a' W') a W := by
  obtain ⟨x8, x9, x10, x59, x62, p8, p9, p10, h⟩ := h
  have hact := h.act
  refine op_alloc h14 p14 q14 (alloc_run W) ?_
  have hk := h.kept ((Below.refl _ W).alloc (Nat.le_refl _) (.cells zeroV 26))
  rw [hact, r14, puts_10]
  exact ⟨hk.below, x8, x9, _, x59, x62, p8, p9, W.heap.size, ⟨rfl, hk.below, hk.hb0, hk.ord, hk.n8, hk.n9, fun _ => ⟨rfl, h.hb0, heap_alloc_new W _⟩, hk.n89, fun e _ => Nat.ne_of_lt (h.n8 e).2.lt, fun e _ => Nat.ne_of_lt (h.n9 e).2.lt, hk.g1, hk.g2⟩⟩
end

theorem region_get2 {ops : Array Oper} {Q : Exit → Act → World → Prop} {A B : RV} {key : ByteArray} {base : Nat} {W0 W1 : World} {a1 : Act} {vA vB : Value} {o2 o5 o12 o13 o14 : Oper}
    (h2 : ops[2]? = some o2) (h5 : ops[5]? = some o5) (h12 : ops[12]? = some o12) (h13 : ops[13]? = some o13) (h14 : ops[14]? = some o14)
    (p2 : o2.op = .call { callee := .value (.func 27), args := #[.tmp 57, .tmp 58], argTypes := #[26, 9] }) (q2 : o2.guard = none) (r2 : o2.dst = some 59)
    (p5 : o5.op = .call { callee := .value (.func 27), args := #[.tmp 60, .tmp 61], argTypes := #[26, 9] }) (q5 : o5.guard = none) (r5 : o5.dst = some 62)
    (p12 : o12.op = .alloc 26) (q12 : o12.guard = none) (r12 : o12.dst = some 8) (p13 : o13.op = .alloc 26) (q13 : o13.guard = none) (r13 : o13.dst = some 9) (p14 : o14.op = .alloc 26) (q14 : o14.guard = none) (r14 : o14.dst = some 10)
    (hr : ∀ c1 c2 d8 d9 d10, (c2 = true → c1 = true) → (c2 && d8 && d9 && d10) = false → Region.ready .any ops (L5 c1 c2 d8 d9 d10) = rs5 c1 c2 d8 d9 d10)
    (e57 : a1.tmps[57]? = some vA) (e58 : a1.tmps[58]? = some (.string key)) (e60 : a1.tmps[60]? = some vB) (e61 : a1.tmps[61]? = some (.string key))
    (hA : A.Rep W0 vA) (hB : B.Rep W0 vB) (gA : A.Good) (gB : B.Good) (hbase : base = W0.heap.size) (hW : Below base W0 W1)
    (x8 x9 x10 x59 x62 : Value) (hput : a1 = puts5 a1 x8 x9 x10 x59 x62)
    (hfin : ∀ x59 x62 p8 p9 p10 W, Below base W0 W → NewV base W p8 → NewV base W p9 → NewV base W p10 → p8 ≠ p9 → p8 ≠ p10 → p9 ≠ p10 → Got A key W0 x59 → Got B key W0 x62 →
      wpAnyH Tryd.prog .any ops Q (fun W => Below base W0 W) 3 (L5 true true true true true) (puts5 a1 (.pointer (some ⟨p8, 0, none⟩)) (.pointer (some ⟨p9, 0, none⟩)) (.pointer (some ⟨p10, 0, none⟩)) x59 x62) W) :
    wpAnyH Tryd.prog .any ops Q (fun W => Below base W0 W) 8 (L5 false false false false false) a1 W1 := by
  refine wpAnyH_inv (D := Bool × Bool × Bool × Bool × Bool) (fun d => L5 d.1 d.2.1 d.2.2.1 d.2.2.2.1 d.2.2.2.2) (fun d => (if d.1 then 0 else 1) + (if d.2.1 then 0 else 1) + (if d.2.2.1 then 0 else 1) + (if d.2.2.2.1 then 0 else 1) + (if d.2.2.2.2 then 0 else 1))
    (fun d a W => (d.2.1 = true → d.1 = true) ∧ St5 A B key base W0 a1 d.1 d.2.1 d.2.2.1 d.2.2.2.1 d.2.2.2.2 a W) 3 ?_ ?_ 5 (false, false, false, false, false) a1 W1 rfl ?_
  · rintro ⟨c1, c2, d8, d9, d10⟩ a W hm ⟨ho, h⟩
    simp only at hm ho h ⊢
    have hall : c1 = true ∧ c2 = true ∧ d8 = true ∧ d9 = true ∧ d10 = true := by
      clear h ho
      revert hm
      revert c1 c2 d8 d9 d10
      decide
    obtain ⟨rfl, rfl, rfl, rfl, rfl⟩ := hall
    obtain ⟨x8, x9, x10, x59, x62, p8, p9, p10, h⟩ := h
    obtain ⟨e8, n8⟩ := h.n8 rfl
    obtain ⟨e9, n9⟩ := h.n9 rfl
    obtain ⟨e10, n10⟩ := h.n10 rfl
    rw [h.act, e8, e9, e10]
    exact hfin x59 x62 p8 p9 p10 W h.below n8 n9 n10 (h.n89 rfl rfl) (h.n80 rfl rfl) (h.n90 rfl rfl) (h.g1 rfl) (h.g2 rfl)
  · rintro ⟨c1, c2, d8, d9, d10⟩ a W hm ⟨ho, h⟩
    simp only at hm ho h ⊢
    have hnot : (c2 && d8 && d9 && d10) = false := by
      clear h
      revert hm ho
      revert c1 c2 d8 d9 d10
      decide
    refine ⟨rs5 c1 c2 d8 d9 d10, hr c1 c2 d8 d9 d10 ho hnot, ?_, fun i hi => ?_⟩
    · clear h
      revert hnot ho
      clear hm
      revert c1 c2 d8 d9 d10
      decide
    · have hcase : (i = 2 ∧ c1 = false ∧ c2 = false) ∨ (i = 5 ∧ c1 = true ∧ c2 = false) ∨ (i = 12 ∧ d8 = false) ∨ (i = 13 ∧ d9 = false) ∨ (i = 14 ∧ d10 = false) := by
        clear h hm
        revert hi hnot ho
        unfold rs5
        cases c1 <;> cases c2 <;> cases d8 <;> cases d9 <;> cases d10 <;> simp <;> omega
      clear hi hm hnot
      rcases hcase with ⟨rfl, rfl, rfl⟩ | ⟨rfl, rfl, rfl⟩ | ⟨rfl, rfl⟩ | ⟨rfl, rfl⟩ | ⟨rfl, rfl⟩
      · refine ⟨(true, false, d8, d9, d10), rfl, by clear h ho; revert d8 d9 d10; decide, ?_⟩
        exact wpOp_mono (fun _ _ h => ⟨h.1, fun _ => rfl, h.2⟩) (step_g1 h2 p2 q2 r2 e57 e58 hA gA hbase h)
      · refine ⟨(true, true, d8, d9, d10), rfl, by clear h ho; revert d8 d9 d10; decide, ?_⟩
        exact wpOp_mono (fun _ _ h => ⟨h.1, fun _ => rfl, h.2⟩) (step_g2 h5 p5 q5 r5 e60 e61 hB gB hbase h)
      · refine ⟨(c1, c2, true, d9, d10), rfl, by clear h ho; revert c1 c2 d9 d10; decide, ?_⟩
        exact wpOp_mono (fun _ _ h => ⟨h.1, ho, h.2⟩) (step_8 h12 p12 q12 r12 h)
      · refine ⟨(c1, c2, d8, true, d10), rfl, by clear h ho; revert c1 c2 d8 d10; decide, ?_⟩
        exact wpOp_mono (fun _ _ h => ⟨h.1, ho, h.2⟩) (step_9 h13 p13 q13 r13 h)
      · refine ⟨(c1, c2, d8, d9, true), rfl, by clear h ho; revert c1 c2 d8 d9; decide, ?_⟩
        exact wpOp_mono (fun _ _ h => ⟨h.1, ho, h.2⟩) (step_10 h14 p14 q14 r14 h)
  · exact ⟨fun h => h, x8, x9, x10, x59, x62, 0, 0, 0, ⟨hput, hW, by rw [hbase]; exact hbase ▸ hW.size, fun h => h, nofun, nofun, nofun, nofun, nofun, nofun, nofun, nofun⟩⟩
end Go.Proofs.YtjpcdbopioblaaaDoor
