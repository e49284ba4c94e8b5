/- gojq's deepMergeObjects walked. -/
import Derived.Test.YtjpcdbopioblaaaDoorMergeData
import Derived.Test.YtjpcdbopioblaaaDoorCopy
import Derived.Shelf.SlMaps.Copy
import Derived.Maps.OwnSet
namespace Go.Proofs.YtjpcdbopioblaaaDoor
open Go.RowKit Go.WideMaps Go.Maps

theorem go_not_map {w : World} {base : Nat} {x : Value} {y : RV} (h : y.Go w base x) (hk : y.kd ≠ 6) (wx : World) :
    (Instr.typeAssert x 20 94 true).run Tryd.prog wx = .ok (.tuple #[.map none, .bool false]) wx := by
  obtain ⟨k, h', t, l, ks, vs⟩ := y
  have h6 : k ≠ 6 := hk
  unfold RV.Go at h
  rcases h with ⟨_, e⟩ | ⟨_, e⟩ | ⟨_, e⟩ | ⟨_, e⟩ | ⟨_, e⟩ | ⟨_, a, cap, e, _⟩ | ⟨e, _⟩
  · subst e; exact as_nil_map wx
  · subst e; exact as_bool_map _ wx
  · subst e; exact as_bool_map _ wx
  · subst e
    unfold numG
    split
    · exact as_int_map _ wx
    · exact as_float_map _ wx
  · subst e; exact as_str_map _ wx
  · subst e; exact as_list_map _ wx
  · exact absurd e h6
theorem gos_map {w : World} {S : Nat → Prop} {x : Value} {y : RV} (h : y.GoS w S x) (hk : y.kd = 6) : ∃ r n xs, x = .iface 94 (.map (some r)) ∧ S r ∧ n ≤ 1000000 ∧ w.ownsMap Tryd.prog 9 heldR r n (mapD y.keys xs) ∧ xs.length = y.keys.length ∧ RV.GoSV w S xs y.vals := by
  obtain ⟨k, h', t, l, ks, vs⟩ := y
  have h6 : k = 6 := hk
  subst h6
  unfold RV.GoS at h
  rcases h with ⟨e, _⟩ | ⟨e, _⟩ | ⟨e, _⟩ | ⟨e, _⟩ | ⟨e, _⟩ | ⟨e, _⟩ | ⟨_, r, n, xs, e, h1, h2, h3, h4, h5⟩
  · exact absurd e (by decide)
  · exact absurd e (by decide)
  · exact absurd e (by decide)
  · exact absurd e (by decide)
  · exact absurd e (by decide)
  · exact absurd e (by decide)
  · exact ⟨r, n, xs, e, h1, h2, h3, h4, h5⟩
/-- Laying a map's entries into an empty one gives that map. -/
theorem merge_empty {ks : List ByteArray} {xs : List Value} (hu : KeysUp ks) (hl : xs.length = ks.length) (hc : Maps.Canon (Lib.mergeD (.map []) (mapD ks xs))) (hc2 : Maps.Canon (mapD ks xs)) : Lib.mergeD (.map []) (mapD ks xs) = mapD ks xs := by
  have hk : ∀ p ∈ ((ks.zip xs).map fun p => ((Lit.string p.1.data.toList, DataW.held p.2) : Lit × DataW Value)), WideAt.IsKeyLit p.1 := fun p hp => by
    obtain ⟨q, _, rfl⟩ := List.mem_map.1 hp
    trivial
  obtain ⟨es, e, hp, _⟩ := hc2
  have hes : es = (ks.zip xs).map fun p => ((Lit.string p.1.data.toList, DataW.held p.2) : Lit × DataW Value) := by
    unfold mapD at e
    injection e with e
    exact e.symm
  refine Maps.ext hc ⟨es, e, hp, fun p h => hk p (by rw [← hes]; exact h)⟩ (fun k => ?_) (fun k z _ => ?_)
  · have := Maps.has_foldPut k ((ks.zip xs).map fun p => ((Lit.string p.1.data.toList, DataW.held p.2) : Lit × DataW Value)) (.map []) ⟨[], rfl⟩ hk
    refine Eq.trans this ?_
    simp [Maps.has, mapD]
  · have := Maps.atKey_foldPut k z ((ks.zip xs).map fun p => ((Lit.string p.1.data.toList, DataW.held p.2) : Lit × DataW Value)) (.map []) ⟨[], rfl⟩ hk (by rw [← hes]; exact Maps.apart_of_rising hp)
    exact this
section
variable {P : Program} {ops : Array Oper} {rest : List Oper} {o : Oper} {a : Act} {Q : Exit → Act → World → Prop} {w : World}
/-- 'v, ok := m[k]' where what stands there is known. -/
theorem wpList_lookup_held (hg : o.guard = none) (m x : Operand) (t : TypeId) (hop : o.op = Op.lookup t m x true)
    (k e : TypeId) (K : Keyed P k) (ht : P.underlying t = some (.map k e)) (hz : (zeroValue e).run P w = .ok .nilIface w) (b n : Nat) (D : DataW Value)
    (hm : a.eval m = .map (some b)) (hown : w.ownsMap P k heldR b n D) (key : Value) (kl : Lit) (hx : a.eval x = key) (hkey : keyOf P k key = some kl) (u : Value) (bb : Bool) (hat : D.atKey kl (.held .nilIface) = .held u) (hh : Maps.has D kl = bb)
    (hK : wpList P ops Q rest (a.put o.dst (.tuple #[u, .bool bb])) w) :
    wpList P ops Q (o :: rest) a w :=
  wpList_lookup_own_ok w hg m x t hop k e K ht heldR hz (.held .nilIface) [] rfl b n D hm hown key kl hx hkey (fun v ps hv => by
    rw [hat] at hv
    have h1 := heldR_inv hv
    injection h1 with h1
    rw [← h1, hh]
    exact hK)
end
/-- What the product leaves. -/
def DMPost (N : Nat) (a b : RV) (S : Nat → Prop) (w : World) (e : Ending) (w' : World) : Prop := ∃ c x, e = .returned x ∧ MergeN N a b c ∧ c.kd = 6 ∧ c.GoS w' (fun k => S k ∨ w.heap.size ≤ k) x ∧ Below w.heap.size w w'
/-- In the loop. -/
structure DMJ (N : Nat) (a b : RV) (xa xb : List Value) (m it : Nat) (S : Nat → Prop) (w wr : World) (n : Nat) (Dm : DataW Value) (left : Lit → Bool) : Prop where
  mj : MJ N a b xa xb (fun k => (S k ∧ k < w.heap.size) ∨ it < k) wr Dm left
  below : Below w.heap.size w wr
  lt : it < wr.heap.size
  ga : RV.GoSV wr (fun k => (S k ∧ k < w.heap.size) ∨ it < k) xa a.vals
  gb : RV.GoSV wr (fun k => (S k ∧ k < w.heap.size) ∨ it < k) xb b.vals
  own : wr.ownsMap Tryd.prog 9 heldR m n Dm
theorem DMJ.kept {N : Nat} {a b : RV} {xa xb : List Value} {m it : Nat} {S : Nat → Prop} {w wr w' : World} {n : Nat} {Dm : DataW Value} {left : Lit → Bool} (h : DMJ N a b xa xb m it S w wr n Dm left) (hs : SameOn (fun k => (S k ∧ k < w.heap.size) ∨ it < k) wr w') (hb : Below w.heap.size w w') (hl : it < w'.heap.size) (ho : w'.ownsMap Tryd.prog 9 heldR m n Dm) : DMJ N a b xa xb m it S w w' n Dm left :=
  ⟨h.mj.kept hs, hb, hl, h.ga.keep hs (fun _ h _ => h), h.gb.keep hs (fun _ h _ => h), ho⟩
end Go.Proofs.YtjpcdbopioblaaaDoor
