/- FnMergeParts: the keys of both, one behind the other. -/
import Derived.Test.YtjpcdbopioblaaaDoorJoined
import Derived.Test.YtjpcdbopioblaaaDoorMapRow2
import Derived.Test.YtjpcdbopioblaaaDoorMergeLW
namespace Go.Proofs.YtjpcdbopioblaaaDoor
open Go.RowKit

theorem key_news {w : World} {l : List ByteArray} {a : Option Addr} (h : KeysAt w a 0 l) : 0 < l.length → ∃ ad, a = some ad ∧ ∀ wx, Below w.heap.size w wx → ∀ j u, (l.map fun k => Value.string k)[j]? = some u → wx.cell? (ad.add j) = some u := fun h0 => by
  obtain ⟨b, o, rfl, -, -⟩ := h.get 0 h0
  refine ⟨_, rfl, fun wx hb j u hu => ?_⟩
  rw [List.getElem?_map] at hu
  cases hj : l[j]? with
  | none => rw [hj] at hu; cases hu
  | some k =>
    rw [hj] at hu
    injection hu with hu
    subst hu
    obtain ⟨hlt, rfl⟩ := List.getElem?_eq_some_iff.1 hj
    obtain ⟨b', o', e, -, hc⟩ := h.get j hlt
    injection e with e
    injection e with e1 e2
    subst e1 e2
    rw [Nat.zero_add] at hc
    rw [add_mk]
    exact (hb.cell (p := ⟨b, _, none⟩) (cell_lt hc)).trans hc
theorem keys_small {w : World} {l : List ByteArray} {a : Option Addr} (h : KeysAt w a 0 l) : ∀ k ∈ l, k.size ≤ reachN := fun k hk => by
  obtain ⟨j, hj, rfl⟩ := List.mem_iff_getElem.1 hk
  obtain ⟨_, _, _, h1, _⟩ := h.get j hj
  exact h1
/-- The two appends. -/
theorem keys_runs (l l' : List ByteArray) (a b : Option Addr) (ca cb : Nat) (w w1' : World) (hw : Below w.heap.size w w1') (hl : l.length ≤ 100000) (hl' : l'.length ≤ 100000) (h1 : KeysAt w a 0 l) (h2 : KeysAt w b 0 l') :
    ∃ g1 c1 w1, (Builtin.append_ #[24, 24] 24 #[.slice (some ⟨w1'.heap.size, 0, none⟩) 0 0, .slice a l.length ca]).run Tryd.prog (w1'.alloc (.cells #[] 9)) = .ok (.slice (some ⟨g1, 0, none⟩) l.length c1) w1 ∧ Below w.heap.size w w1 ∧
      ∃ g2 c2 w2, (Builtin.append_ #[24, 24] 24 #[.slice (some ⟨g1, 0, none⟩) l.length c1, .slice b l'.length cb]).run Tryd.prog w1 = .ok (.slice (some ⟨g2, 0, none⟩) (l.length + l'.length) c2) w2 ∧ Below w.heap.size w w2 ∧
      KeysAt w2 (some ⟨g2, 0, none⟩) 0 (l ++ l') := by
  have hrow0 := World.ownsRow_made (base := w.heap.size) (e := 9) (size := 1) w1' #[] 0 hw.size (by decide) (by simp)
  have hb0 : Below w.heap.size w (w1'.alloc (.cells #[] 9)) := hw.alloc hw.size _
  obtain ⟨i0, hi0, hz0, hzs, hzb⟩ := info_parts Tryd.infoString
  have s1 := keys_small h1
  have s2 := keys_small h2

  obtain ⟨g1, c1, w1, hr1, hown1, hg1⟩ := append_src_row (P := Tryd.prog) (w1'.alloc (.cells #[] 9)) w.heap.size 24 24 9 i0 (.string ByteArray.empty) 1 16 Tryd.underlying24 hi0 hz0 hzs hzb rfl (by decide)
    w1'.heap.size 0 0 [] hrow0 a l.length ca (l.map fun k => Value.string k) (by simp) (fun h => (key_news h1 h).imp fun ad h => ⟨h.1, h.2 _ hb0⟩) (fun u hu => by simp at hu; obtain ⟨k, -, rfl⟩ := hu; rfl) (by unfold maxLen; omega) (by omega) hb0.size (fun h => by
      rcases Nat.eq_zero_or_pos l.length with h0 | h0
      · exact .inr h0
      · obtain ⟨ad, e, _⟩ := key_news h1 h0; rw [h] at e; cases e)
  have hb1 : Below w.heap.size w w1 := hb0.grown hg1 hb0.size (fun k e => by injection e with e; subst e; exact hw.size)
  obtain ⟨g2, c2, w2, hr2, hown2, hg2⟩ := append_src_row (P := Tryd.prog) w1 w.heap.size 24 24 9 i0 (.string ByteArray.empty) 1 16 Tryd.underlying24 hi0 hz0 hzs hzb rfl (by decide)
    g1 c1 (0 + l.length) ([] ++ l.map fun k => Value.string k) hown1 b l'.length cb (l'.map fun k => Value.string k) (by simp) (fun h => (key_news h2 h).imp fun ad h => ⟨h.1, h.2 _ hb1⟩) (fun u hu => by simp at hu; obtain ⟨k, -, rfl⟩ := hu; rfl) (by unfold maxLen; omega) (by omega) hb1.size (fun h => by
      rcases Nat.eq_zero_or_pos l'.length with h0 | h0
      · exact .inr h0
      · obtain ⟨ad, e, _⟩ := key_news h2 h0; rw [h] at e; cases e)
  have hb2 : Below w.heap.size w w2 := hb1.grown hg2 hb1.size (fun k e => by injection e with e; subst e; exact (hown1.lt g1 rfl).1)
  simp only [Nat.zero_add, List.nil_append] at hr1 hown1 hr2 hown2
  refine ⟨g1, c1, w1, hr1, hb1, g2, c2, w2, hr2, hb2, ?_⟩
  have hk : RowK w.heap.size w2 (.slice (some ⟨g2, 0, none⟩) (l.length + l'.length) c2) (l ++ l') (l ++ l').length := by
    unfold RowK
    rw [List.take_length, List.map_append, List.length_append]
    exact hown2
  obtain ⟨aa, cap, e, h3⟩ := hk.keysAt (fun k hk => (List.mem_append.1 hk).elim (s1 k) (s2 k))
  injection e with e _ _
  subst e
  exact h3 w2 (SameFrom.refl _ _)
theorem rep_keys {x : RV} {w : World} {c0 c1 c2 c3 c5 : Value} {ak : Option Addr} {nk ck : Nat} (h : x.Rep w (.agg #[c0, c1, c2, c3, .slice ak nk ck, c5])) : KeysAt w ak 0 x.keys ∧ nk = x.keys.length ∧ x.keys.length ≤ reachN := by
  obtain ⟨k, h', t, l, ks, vs⟩ := x
  unfold RV.Rep at h
  obtain ⟨_, _, _, _, _, _, he, -, -, -, -, h1, -, -, h2, -⟩ := h
  simp only [Value.agg.injEq, Array.mk.injEq, List.cons.injEq, Value.slice.injEq] at he
  obtain ⟨-, -, -, -, ⟨rfl, rfl, rfl⟩, -⟩ := he
  exact ⟨h2, rfl, h1⟩
theorem keys_few {x : RV} (hg : x.Good) (hn : x.nodes ≤ 400) : x.keys.length ≤ 100000 := by
  have h1 := RV.len_le x.vals
  have h2 := RV.nodes_map x
  have h3 := hg.keys.2.1
  omega
theorem step_append_runM {P : Program} {w : World} {ops : Array Oper} {o : Oper} {a : Act} {K : Act → World → Prop} {Q : Exit → Act → World → Prop} {i : Nat} (hi : ops[i]? = some o) (hgd : o.guard = none) (s x : Operand) (t : TypeId)
    (ho : o.op = .call { callee := .builtin .append, args := #[s, x], argTypes := #[t, t] }) (v u : Value) (hs : a.eval s = v) (hx : a.eval x = u) {v' : Value} {w' : World}
    (hr : (Builtin.append_ #[t, t] o.type #[v, u]).run P w = .ok v' w') (h : K (a.put o.dst v') w') : wpOp P ops Q i K a w := by
  refine wpOp_step hi fun K' hK => ?_
  rw [if_pos (by simp [Region.wanted, hgd])]
  unfold Oper.wp execOp
  simp only [ho, resolve, invoke, builtin, Sem.run_bind, Sem.run_pure, Result.andThen_ok, List.map_toArray, List.map_cons, List.map_nil, hs, hx, hr]
  exact hK _ _ h
end Go.Proofs.YtjpcdbopioblaaaDoor
