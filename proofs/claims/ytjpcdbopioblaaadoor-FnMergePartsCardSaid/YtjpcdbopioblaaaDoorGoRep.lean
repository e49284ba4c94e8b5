/- The program's own values: what it means that a tree lies in memory as the package gojq has it. -/
import Derived.Test.YtjpcdbopioblaaaDoorTypeOf0
import Derived.Maps.OwnOps
import Derived.Maps.Views
import Derived.Maps.OwnSet
import Derived.Laws.FloatArith
import Derived.Laws.EntriesVeiled
import Derived.Deep.OwnRows
namespace Go.Proofs.YtjpcdbopioblaaaDoor
open Go.RowKit

theorem RV.GoodL.append {l l' : List RV} : RV.GoodL (l ++ l') ↔ RV.GoodL l ∧ RV.GoodL l' := by
  induction l with
  | nil => simp [RV.GoodL]
  | cons x xs ih => simp only [List.cons_append, RV.GoodL, ih, and_assoc]
theorem RV.GoodL.get {l : List RV} (h : RV.GoodL l) : ∀ (i : Nat) (hi : i < l.length), l[i].Good := by
  induction l with
  | nil => intro i hi; simp at hi
  | cons x xs ih =>
    intro i hi
    cases i with
    | zero => exact h.1
    | succ i => exact ih h.2 i (by simpa using hi)

theorem RV.len_le : ∀ (l : List RV), l.length ≤ RV.nodesL l
  | [] => Nat.le_refl _
  | x :: xs => by have := RV.len_le xs; have := x.nodes_pos; simp only [List.length_cons, RV.nodesL]; omega

theorem bcell {W w1 : World} (hb : Below W.heap.size W w1) : (∀ b o, b < W.heap.size → w1.cell? ⟨b, o, none⟩ = W.cell? ⟨b, o, none⟩) ∧ (∀ b o, b < W.heap.size → w1.frozen? ⟨b, o, none⟩ = W.frozen? ⟨b, o, none⟩) :=
  ⟨fun b o h => hb.cell (p := ⟨b, o, none⟩) h, fun b o h => hb.frozen (p := ⟨b, o, none⟩) h⟩

/-- The cells of a value by their kinds. -/
theorem RV.Rep.shape {x : RV} {w : World} {c0 c1 c2 c3 c4 c5 : Value} (hr : x.Rep w (.agg #[c0, c1, c2, c3, c4, c5])) : ∃ k h t al nl cl ak nk ck av nv cv, c0 = .int .i64 k ∧ c1 = .int .i64 h ∧ c2 = .string t ∧ c3 = .slice al nl cl ∧ c4 = .slice ak nk ck ∧ c5 = .slice av nv cv := by
  obtain ⟨k, h, t, l, ks, vs⟩ := x
  unfold RV.Rep at hr
  obtain ⟨al, cl, ak, ck, av, cv, e, _⟩ := hr
  simp only [Value.agg.injEq, Array.mk.injEq, List.cons.injEq, and_true] at e
  obtain ⟨rfl, rfl, rfl, rfl, rfl, rfl⟩ := e
  exact ⟨_, _, _, _, _, _, _, _, _, _, _, _, rfl, rfl, rfl, rfl, rfl, rfl⟩

/-- A map's element read as itself. -/
def heldR (v : Value) : Option (DataW Value × List MemPlace) := some (.held v, [])
/-- A map by its keys, rising, and the values at them. -/
def mapD (ks : List ByteArray) (xs : List Value) : DataW Value := .map ((ks.zip xs).map fun p => (.string p.1.data.toList, .held p.2))

/-- The bits of a half. -/
def halfF (h : Int) : Nat := Ieee.double.write (.number (decide (h < 0)) h.natAbs (-1))
/-- A number as the program has it. -/
def numG (h : Int) : Value := if h.tmod 2 = 0 then .iface 3 (.int .i64 (h.tdiv 2)) else .iface 90 (.float .f64 (halfF h))

mutual
/-- The tree lies in the world from block 'base' on as a value of the program. -/
def RV.Go (w : World) (base : Nat) (x : Value) : RV → Prop
  | .mk k h t l ks vs =>
    (k = 0 ∧ x = .nilIface) ∨ (k = 1 ∧ x = .iface 4 (.bool false)) ∨ (k = 2 ∧ x = .iface 4 (.bool true)) ∨ (k = 3 ∧ x = numG h) ∨ (k = 4 ∧ x = .iface 9 (.string t)) ∨
    (k = 5 ∧ ∃ a cap, x = .iface 85 (.slice a l.length cap) ∧ RV.GoL w base a 0 l) ∨
    (k = 6 ∧ ∃ r n xs, x = .iface 94 (.map (some r)) ∧ base ≤ r ∧ n ≤ 1000000 ∧ w.ownsMap Tryd.prog 9 heldR r n (mapD ks xs) ∧ xs.length = ks.length ∧ RV.GoV w base xs vs)
def RV.GoL (w : World) (base : Nat) (a : Option Addr) (i : Nat) : List RV → Prop
  | [] => True
  | y :: ys => (∃ b o x, a = some ⟨b, o, none⟩ ∧ base ≤ b ∧ w.cell? ⟨b, o + i, none⟩ = some x ∧ RV.Go w base x y) ∧ RV.GoL w base a (i + 1) ys
def RV.GoV (w : World) (base : Nat) (xs : List Value) : List RV → Prop
  | [] => xs = []
  | y :: ys => ∃ x r, xs = x :: r ∧ RV.Go w base x y ∧ RV.GoV w base r ys
end

/-- Blocks from base on that were there are as they were. -/
def SameFrom (base : Nat) (w w' : World) : Prop := ∀ k, base ≤ k → k < w.heap.size → w'.heap[k]? = w.heap[k]?
theorem SameFrom.of_below {w w' : World} (h : Below w.heap.size w w') (base : Nat) : SameFrom base w w' := fun k _ hk => h.block k hk
theorem SameFrom.of_gb {w w' : World} {g base : Nat} (h : w.grownBy w' (some g)) (hg : g < base) : SameFrom base w w' := fun k hb hk => h.block k hk (fun e => by cases e; omega)
theorem SameFrom.cell {base : Nat} {w w' : World} (h : SameFrom base w w') {b o : Nat} {v : Value} (hb : base ≤ b) (hc : w.cell? ⟨b, o, none⟩ = some v) : w'.cell? ⟨b, o, none⟩ = some v :=
  (World.cell?_of_block (h b hb (cell_lt hc))).trans hc
theorem SameFrom.map {base : Nat} {w w' : World} (h : SameFrom base w w') {r n : Nat} {D : DataW Value} (hb : base ≤ r) (hm : w.ownsMap Tryd.prog 9 heldR r n D) : w'.ownsMap Tryd.prog 9 heldR r n D := by
  have hlt := hm.lt
  obtain ⟨es, clock, h1, h2⟩ := hm
  exact ⟨es, clock, (h r hb hlt).trans h1, h2⟩

mutual
theorem RV.Go.same {w w' : World} {base : Nat} (hs : SameFrom base w w') : ∀ {y : RV} {x : Value}, y.Go w base x → y.Go w' base x
  | .mk k h t l ks vs, x, hr => by
    unfold RV.Go at hr ⊢
    rcases hr with e | e | e | e | e | ⟨e, a, cap, hx, hl⟩ | ⟨e, r, n, xs, hx, hb, hn, hm, hxs, hv⟩
    · exact .inl e
    · exact .inr (.inl e)
    · exact .inr (.inr (.inl e))
    · exact .inr (.inr (.inr (.inl e)))
    · exact .inr (.inr (.inr (.inr (.inl e))))
    · exact .inr (.inr (.inr (.inr (.inr (.inl ⟨e, a, cap, hx, RV.GoL.same hs hl⟩)))))
    · exact .inr (.inr (.inr (.inr (.inr (.inr ⟨e, r, n, xs, hx, hb, hn, hs.map hb hm, hxs, RV.GoV.same hs hv⟩)))))
theorem RV.GoL.same {w w' : World} {base : Nat} (hs : SameFrom base w w') : ∀ {l : List RV} {a : Option Addr} {i : Nat}, RV.GoL w base a i l → RV.GoL w' base a i l
  | [], _, _, _ => by unfold RV.GoL; trivial
  | y :: ys, a, i, hr => by
    unfold RV.GoL at hr ⊢
    obtain ⟨⟨b, o, x, e, hb, hc, hy⟩, h2⟩ := hr
    exact ⟨⟨b, o, x, e, hb, hs.cell hb hc, RV.Go.same hs hy⟩, RV.GoL.same hs h2⟩
theorem RV.GoV.same {w w' : World} {base : Nat} (hs : SameFrom base w w') : ∀ {l : List RV} {xs : List Value}, RV.GoV w base xs l → RV.GoV w' base xs l
  | [], _, hr => by unfold RV.GoV at hr ⊢; exact hr
  | y :: ys, xs, hr => by
    unfold RV.GoV at hr ⊢
    obtain ⟨x, r, e, hy, h2⟩ := hr
    exact ⟨x, r, e, RV.Go.same hs hy, RV.GoV.same hs h2⟩
end
mutual
theorem RV.Go.mono {w : World} {base base' : Nat} (hb : base' ≤ base) : ∀ {y : RV} {x : Value}, y.Go w base x → y.Go w base' x
  | .mk k h t l ks vs, x, hr => by
    unfold RV.Go at hr ⊢
    rcases hr with e | e | e | e | e | ⟨e, a, cap, hx, hl⟩ | ⟨e, r, n, xs, hx, hb2, hn, hm, hxs, hv⟩
    · exact .inl e
    · exact .inr (.inl e)
    · exact .inr (.inr (.inl e))
    · exact .inr (.inr (.inr (.inl e)))
    · exact .inr (.inr (.inr (.inr (.inl e))))
    · exact .inr (.inr (.inr (.inr (.inr (.inl ⟨e, a, cap, hx, RV.GoL.mono hb hl⟩)))))
    · exact .inr (.inr (.inr (.inr (.inr (.inr ⟨e, r, n, xs, hx, Nat.le_trans hb hb2, hn, hm, hxs, RV.GoV.mono hb hv⟩)))))
theorem RV.GoL.mono {w : World} {base base' : Nat} (hb : base' ≤ base) : ∀ {l : List RV} {a : Option Addr} {i : Nat}, RV.GoL w base a i l → RV.GoL w base' a i l
  | [], _, _, _ => by unfold RV.GoL; trivial
  | y :: ys, a, i, hr => by
    unfold RV.GoL at hr ⊢
    obtain ⟨⟨b, o, x, e, hb2, hc, hy⟩, h2⟩ := hr
    exact ⟨⟨b, o, x, e, Nat.le_trans hb hb2, hc, RV.Go.mono hb hy⟩, RV.GoL.mono hb h2⟩
theorem RV.GoV.mono {w : World} {base base' : Nat} (hb : base' ≤ base) : ∀ {l : List RV} {xs : List Value}, RV.GoV w base xs l → RV.GoV w base' xs l
  | [], _, hr => by unfold RV.GoV at hr ⊢; exact hr
  | y :: ys, xs, hr => by
    unfold RV.GoV at hr ⊢
    obtain ⟨x, r, e, hy, h2⟩ := hr
    exact ⟨x, r, e, RV.Go.mono hb hy, RV.GoV.mono hb h2⟩
end

theorem numG_shape (h : Int) : ∃ t y, numG h = .iface t y := by unfold numG; split <;> exact ⟨_, _, rfl⟩
theorem RV.Go.shape {w : World} {base : Nat} {x : Value} {y : RV} (hr : y.Go w base x) : x = .nilIface ∨ ∃ t z, x = .iface t z := by
  obtain ⟨k, h, t, l, ks, vs⟩ := y
  unfold RV.Go at hr
  rcases hr with ⟨_, e⟩ | ⟨_, e⟩ | ⟨_, e⟩ | ⟨_, e⟩ | ⟨_, e⟩ | ⟨_, a, cap, e, _⟩ | ⟨_, r, n, xs, e, _⟩
  · exact .inl e
  · exact .inr ⟨_, _, e⟩
  · exact .inr ⟨_, _, e⟩
  · obtain ⟨t, z, hz⟩ := numG_shape h; exact .inr ⟨t, z, e.trans hz⟩
  · exact .inr ⟨_, _, e⟩
  · exact .inr ⟨_, _, e⟩
  · exact .inr ⟨_, _, e⟩

theorem RV.GoL.get {w : World} {base : Nat} {a : Option Addr} : ∀ {l : List RV} {i : Nat}, RV.GoL w base a i l → ∀ (j : Nat) (h : j < l.length), ∃ b o x, a = some ⟨b, o, none⟩ ∧ base ≤ b ∧ w.cell? ⟨b, o + (i + j), none⟩ = some x ∧ l[j].Go w base x
  | _ :: _, i, h, 0, _ => by unfold RV.GoL at h; simpa using h.1
  | _ :: xs, i, h, j + 1, hj => by
    unfold RV.GoL at h
    have := RV.GoL.get h.2 j (by simpa using hj)
    simpa [Nat.add_assoc, Nat.add_comm 1 j] using this
/-- A row of the call's own, filled place by place, is a list of the program. -/
theorem RV.GoL.of {w : World} {base : Nat} {b o : Nat} (hb : base ≤ b) : ∀ (l : List RV) (i : Nat), (∀ (j : Nat) (h : j < l.length), ∃ x, w.cell? ⟨b, o + (i + j), none⟩ = some x ∧ l[j].Go w base x) → RV.GoL w base (some ⟨b, o, none⟩) i l
  | [], _, _ => by unfold RV.GoL; trivial
  | y :: ys, i, h => by
    unfold RV.GoL
    obtain ⟨x, hc, hg⟩ := h 0 (by simp)
    refine ⟨⟨b, o, x, rfl, hb, by simpa using hc, by simpa using hg⟩, RV.GoL.of hb ys (i + 1) fun j hj => ?_⟩
    obtain ⟨x', hc', hg'⟩ := h (j + 1) (by simpa using hj)
    exact ⟨x', by simpa [Nat.add_assoc, Nat.add_comm 1 j] using hc', by simpa using hg'⟩
theorem RV.GoV.len {w : World} {base : Nat} : ∀ {l : List RV} {xs : List Value}, RV.GoV w base xs l → xs.length = l.length
  | [], _, hr => by unfold RV.GoV at hr; simp [hr]
  | _ :: ys, xs, hr => by
    unfold RV.GoV at hr
    obtain ⟨x, r, rfl, _, h2⟩ := hr
    simp [RV.GoV.len h2]
theorem RV.GoV.get {w : World} {base : Nat} : ∀ {l : List RV} {xs : List Value}, RV.GoV w base xs l → ∀ (j : Nat) (h : j < l.length) (h' : j < xs.length), l[j].Go w base xs[j]
  | _ :: _, _, hr, 0, _, _ => by
    unfold RV.GoV at hr
    obtain ⟨x, r, rfl, hg, _⟩ := hr
    simpa using hg
  | _ :: ys, _, hr, j + 1, h, h' => by
    unfold RV.GoV at hr
    obtain ⟨x, r, rfl, _, h2⟩ := hr
    simpa using RV.GoV.get h2 j (by simpa using h) (by simpa using h')
theorem RV.GoV.of {w : World} {base : Nat} : ∀ (l : List RV) (xs : List Value), xs.length = l.length → (∀ (j : Nat) (h : j < l.length) (h' : j < xs.length), l[j].Go w base xs[j]) → RV.GoV w base xs l
  | [], [], _, _ => by unfold RV.GoV; rfl
  | y :: ys, x :: r, hl, h => by
    unfold RV.GoV
    exact ⟨x, r, rfl, h 0 (by simp) (by simp), RV.GoV.of ys r (by simpa using hl) fun j hj hj' => h (j + 1) (by simpa using hj) (by simpa using hj')⟩
end Go.Proofs.YtjpcdbopioblaaaDoor
