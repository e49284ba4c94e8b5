/- FnMergeParts: the world at its loops. -/
import Derived.Test.YtjpcdbopioblaaaDoorRegionGet
import Derived.Test.YtjpcdbopioblaaaDoorMergeImpl
import Derived.Deep.MidRow
import Derived.Laws.Rows
namespace Go.Proofs.YtjpcdbopioblaaaDoor
open Go.RowKit

theorem world_namedM {K : Act → World → Prop} {Q : Exit → Act → World → Prop} {e : Exit} {a : Act} {W : World} (P : World → Prop) (hP : P W) (h : ∀ W1, P W1 → Exit.then K Q e a W1) : Exit.then K Q e a W := h W hP
def CellsM (A0 RB : Nat) (x0 x1 x2 x3 x4 x5 y0 y1 y2 y3 y4 y5 z0 z1 z2 z3 z4 z5 z6 : Value) (W : World) : Prop :=
  W.cell? ⟨A0, 0, none⟩ = some x0 ∧ W.cell? ⟨A0, 1, none⟩ = some x1 ∧ W.cell? ⟨A0, 2, none⟩ = some x2 ∧ W.cell? ⟨A0, 3, none⟩ = some x3 ∧ W.cell? ⟨A0, 4, none⟩ = some x4 ∧ W.cell? ⟨A0, 5, none⟩ = some x5 ∧
  W.cell? ⟨A0 + 1, 0, none⟩ = some y0 ∧ W.cell? ⟨A0 + 1, 1, none⟩ = some y1 ∧ W.cell? ⟨A0 + 1, 2, none⟩ = some y2 ∧ W.cell? ⟨A0 + 1, 3, none⟩ = some y3 ∧ W.cell? ⟨A0 + 1, 4, none⟩ = some y4 ∧ W.cell? ⟨A0 + 1, 5, none⟩ = some y5 ∧
  W.cell? ⟨RB, 0, none⟩ = some z0 ∧ W.cell? ⟨RB, 1, none⟩ = some z1 ∧ W.cell? ⟨RB, 2, none⟩ = some z2 ∧ W.cell? ⟨RB, 3, none⟩ = some z3 ∧ W.cell? ⟨RB, 4, none⟩ = some z4 ∧ W.cell? ⟨RB, 5, none⟩ = some z5 ∧ W.cell? ⟨RB, 6, none⟩ = some z6
structure LWm (w : World) (a b : RV) (ks : List ByteArray) (zs : List RV) (A0 RB : Nat) (x0 x1 x2 x3 x4 x5 y0 y1 y2 y3 y4 y5 z0 z1 z2 z3 : Value) (rak : Option Addr) (rck : Nat) (rav : Option Addr) (rcv : Nat) (z6 : Value) (W : World) : Prop where
  below : Below w.heap.size w W
  lt : A0 + 1 < RB
  size : RB < W.heap.size
  cells : CellsM A0 RB x0 x1 x2 x3 x4 x5 y0 y1 y2 y3 y4 y5 z0 z1 z2 z3 (.slice rak ks.length rck) (.slice rav zs.length rcv) z6 W
  ra : a.Rep W (.agg #[x0, x1, x2, x3, x4, x5])
  rb : b.Rep W (.agg #[y0, y1, y2, y3, y4, y5])
  rc : (RV.mk 6 0 ByteArray.empty [] ks zs).Rep W (.agg #[z0, z1, z2, z3, .slice rak ks.length rck, .slice rav zs.length rcv])
  rk : KeysAt W rak 0 ks
  rv : RV.RepL W rav 0 zs
theorem LWm.kept {w : World} {a b : RV} {ks : List ByteArray} {zs : List RV} {A0 RB : Nat} {x0 x1 x2 x3 x4 x5 y0 y1 y2 y3 y4 y5 z0 z1 z2 z3 : Value} {rak : Option Addr} {rck : Nat} {rav : Option Addr} {rcv : Nat} {z6 : Value} {W W' : World}
    (h : LWm w a b ks zs A0 RB x0 x1 x2 x3 x4 x5 y0 y1 y2 y3 y4 y5 z0 z1 z2 z3 rak rck rav rcv z6 W) (hb : Below W.heap.size W W') : LWm w a b ks zs A0 RB x0 x1 x2 x3 x4 x5 y0 y1 y2 y3 y4 y5 z0 z1 z2 z3 rak rck rav rcv z6 W' := by
  have h1 := fun o => (bcell hb).1 A0 o (by have := h.lt; have := h.size; omega)
  have h2 := fun o => (bcell hb).1 (A0 + 1) o (by have := h.lt; have := h.size; omega)
  have h3 := fun o => (bcell hb).1 RB o h.size
  refine ⟨h.below.trans (hb.mono h.below.size), h.lt, Nat.lt_of_lt_of_le h.size hb.size, ?_, h.ra.below hb, h.rb.below hb, h.rc.below hb, h.rk.below hb, h.rv.below hb⟩
  unfold CellsM
  rw [h1, h1, h1, h1, h1, h1, h2, h2, h2, h2, h2, h2, h3, h3, h3, h3, h3, h3, h3]
  exact h.cells
/-- An element's cells. -/
def CellsE (vb vo i : Nat) (c0 c1 c2 c3 c4 c5 : Value) (W : World) : Prop := W.cell? ⟨vb, vo + i * 6, none⟩ = some c0 ∧ W.cell? ⟨vb, vo + i * 6 + 1, none⟩ = some c1 ∧ W.cell? ⟨vb, vo + i * 6 + 2, none⟩ = some c2 ∧ W.cell? ⟨vb, vo + i * 6 + 3, none⟩ = some c3 ∧ W.cell? ⟨vb, vo + i * 6 + 4, none⟩ = some c4 ∧ W.cell? ⟨vb, vo + i * 6 + 5, none⟩ = some c5
theorem CellsE.kept {vb vo i : Nat} {c0 c1 c2 c3 c4 c5 : Value} {W W' : World} (h : CellsE vb vo i c0 c1 c2 c3 c4 c5 W) (hb : Below W.heap.size W W') : CellsE vb vo i c0 c1 c2 c3 c4 c5 W' := by
  have hlt := cell_lt h.1
  have h1 := fun o => (bcell hb).1 vb o hlt
  unfold CellsE
  rw [h1, h1, h1, h1, h1, h1]
  exact h
/-- What is stored in a row of cells. -/
theorem setCells_rowM {T : TypeId} {b : Nat} : ∀ (vs : List Value) (o : Nat) (W : World) (cs : Array Value), W.heap[b]? = some (.cells cs T (0, 0)) → o + vs.length ≤ cs.size →
    ∃ cs' : Array Value, (W.setCells b o vs).heap[b]? = some (.cells cs' T (0, 0)) ∧ cs'.size = cs.size ∧ (∀ i, i < o → cs'[i]? = cs[i]?) ∧ ∀ j (h : j < vs.length), cs'[o + j]? = some vs[j]
  | [], o, W, cs, h, _ => ⟨cs, h, rfl, fun _ _ => rfl, fun j hj => absurd hj (by simp)⟩
  | v :: r, o, W, cs, h, hs => by
    simp only [List.length_cons] at hs
    have h1 := Go.heap_setCell_same W b o cs T v h
    obtain ⟨cs', h2, h3, h4, h5⟩ := setCells_rowM r (o + 1) (W.setCell ⟨b, o, none⟩ v) (cs.setIfInBounds o v) (by simpa using h1) (by simp; omega)
    refine ⟨cs', h2, by simpa using h3, fun i hi => ?_, fun j hj => ?_⟩
    · rw [h4 i (by omega), Array.getElem?_setIfInBounds_ne (by omega)]
    · cases j with
      | zero =>
        rw [Nat.add_zero, h4 o (by omega)]
        simp [Array.getElem?_setIfInBounds]
        omega
      | succ j =>
        have := h5 j (by simpa using hj)
        rw [show o + (j + 1) = o + 1 + j by omega, this]
        rfl
theorem setCells_gbM {b : Nat} : ∀ (vs : List Value) (o : Nat) (W : World), W.grownBy (W.setCells b o vs) (some b)
  | [], _, W => World.grownBy.refl W _
  | v :: r, o, W => gb_trans (gb_set (World.grownBy.refl W (some b)) o v) (setCells_gbM r (o + 1) _)
theorem one_store {base p : Nat} {W : World} {v : Array Value} (h : NewV base W p) (hb : base ≤ W.heap.size) (hv : v.size = 6) :
    (W.setCells p 0 v.toList).heap[p]? = some (.cells v 26 (0, 0)) ∧ (∀ q, q < W.heap.size → q ≠ p → (W.setCells p 0 v.toList).heap[q]? = W.heap[q]?) ∧ Below base W (W.setCells p 0 v.toList) := by
  have hg := setCells_gbM (b := p) v.toList 0 W
  obtain ⟨cs, h1, h2, -, h3⟩ := setCells_rowM v.toList 0 W zeroV h.2 (by simp [zeroV, hv])
  have hz : cs.size = 6 := by rw [h2]; rfl
  have hcs : cs = v := Array.ext (by rw [hz, hv]) fun i hi hi' => by
    have := h3 i (by simpa using hi')
    rw [Nat.zero_add, Array.getElem?_eq_getElem hi] at this
    simpa using this
  subst hcs
  exact ⟨h1, fun q hq hne => hg.block q hq (fun e => hne (by injection e)), (Below.refl base W).grown hg hb (fun k e => by injection e with e; subst e; exact h.1)⟩
theorem NewV.there {base p : Nat} {W : World} (h : NewV base W p) : W.there p 0 6 := fun j hj => by
  have h1 : W.cell? ⟨p, 0 + j, none⟩ = zeroV[0 + j]? := by rw [Lib.cell_of_heap h.2]
  refine ⟨?_, Lib.frozen_of_heap h.2 (0 + j)⟩
  rw [h1, Array.getElem?_eq_getElem (show 0 + j < zeroV.size by show 0 + j < 6; omega)]
  rfl
theorem NewV.other {base p q : Nat} {W W' : World} (h : NewV base W q) (hb : ∀ q, q < W.heap.size → q ≠ p → W'.heap[q]? = W.heap[q]?) (hne : q ≠ p) : NewV base W' q := ⟨h.1, (hb q h.lt hne).trans h.2⟩
theorem stores3 {ops : Array Oper} {Q : Exit → Act → World → Prop} {S : World → Prop} {a : Act} {W : World} {base p8 p9 p10 : Nat} {v8 v9 v10 : Array Value} {o15 o16 o17 : Oper}
    (h15 : ops[15]? = some o15) (h16 : ops[16]? = some o16) (h17 : ops[17]? = some o17)
    (p15 : o15.op = .store 26 (.tmp 8) (.tmp 59)) (q15 : o15.guard = none) (r15 : o15.dst = none)
    (p16 : o16.op = .store 26 (.tmp 9) (.tmp 62)) (q16 : o16.guard = none) (r16 : o16.dst = none)
    (p17 : o17.op = .store 26 (.tmp 10) (.tmp 68)) (q17 : o17.guard = none) (r17 : o17.dst = none)
    (hr1 : Region.ready .any ops (L5 true true true true true) = [15]) (hr2 : Region.ready .any ops ((L5 true true true true true).setIfInBounds 15 true) = [16])
    (hr3 : Region.ready .any ops (((L5 true true true true true).setIfInBounds 15 true).setIfInBounds 16 true) = [17]) (hr4 : Region.ready .any ops ((((L5 true true true true true).setIfInBounds 15 true).setIfInBounds 16 true).setIfInBounds 17 true) = [])
    (e8 : a.eval (.tmp 8) = .pointer (some ⟨p8, 0, none⟩)) (e9 : a.eval (.tmp 9) = .pointer (some ⟨p9, 0, none⟩)) (e10 : a.eval (.tmp 10) = .pointer (some ⟨p10, 0, none⟩))
    (f8 : a.eval (.tmp 59) = .agg v8) (f9 : a.eval (.tmp 62) = .agg v9) (f10 : a.eval (.tmp 68) = .agg v10)
    (s8 : v8.size = 6) (s9 : v9.size = 6) (s10 : v10.size = 6) (t8 : v8.all (·.oneCell') = true) (t9 : v9.all (·.oneCell') = true) (t10 : v10.all (·.oneCell') = true)
    (n8 : NewV base W p8) (n9 : NewV base W p9) (n10 : NewV base W p10) (d89 : p8 ≠ p9) (d80 : p8 ≠ p10) (d90 : p9 ≠ p10) (hb : base ≤ W.heap.size)
    (hS : ∀ W', Below base W W' → S W')
    (hfin : ∀ W', Below base W W' → W'.heap[p8]? = some (.cells v8 26 (0, 0)) → W'.heap[p9]? = some (.cells v9 26 (0, 0)) → W'.heap[p10]? = some (.cells v10 26 (0, 0)) → Q .normal a W') :
    wpAnyH Tryd.prog .any ops Q S 3 (L5 true true true true true) a W := by
  have hi : (Tryd.prog.info? 26).map (·.size) = some 6 := by kernel_rfl
  have put0 : ∀ v, a.put none v = a := fun v => rfl
  obtain ⟨k1, k2, k3⟩ := one_store n8 hb s8
  refine wpAnyH_all hr1 (by simp) fun i hi1 => ?_
  rw [List.mem_singleton] at hi1
  subst hi1
  refine wpOp_step h15 fun K' hK => ?_
  rw [if_pos (by simp [Region.wanted, q15])]
  refine wp_store_mid 26 _ _ p15 p8 0 v8 e8 f8 (by rw [s8]; exact n8.there) (by rw [hi, s8]) t8 (hK _ _ ⟨hS _ k3, ?_⟩)
  rw [r15, put0]
  have n9' := n9.other k2 d89.symm
  have n10' := n10.other k2 d80.symm
  obtain ⟨l1, l2, l3⟩ := one_store n9' (Nat.le_trans hb k3.size) s9
  have k1' := (l2 p8 (Array.getElem?_eq_some_iff.1 k1).1 d89).trans k1
  have b2 := k3.trans l3
  generalize W.setCells p8 0 v8.toList = W1 at *
  refine wpAnyH_all hr2 (by simp) fun i hi1 => ?_
  rw [List.mem_singleton] at hi1
  subst hi1
  refine wpOp_step h16 fun K' hK => ?_
  rw [if_pos (by simp [Region.wanted, q16])]
  refine wp_store_mid 26 _ _ p16 p9 0 v9 e9 f9 (by rw [s9]; exact n9'.there) (by rw [hi, s9]) t9 (hK _ _ ⟨hS _ b2, ?_⟩)
  rw [r16, put0]
  have n10'' := n10'.other l2 d90.symm
  obtain ⟨m1, m2, m3⟩ := one_store n10'' (Nat.le_trans hb b2.size) s10
  have k1'' := (m2 p8 (Array.getElem?_eq_some_iff.1 k1').1 d80).trans k1'
  have l1' := (m2 p9 (Array.getElem?_eq_some_iff.1 l1).1 d90).trans l1
  have b3 := b2.trans m3
  generalize W1.setCells p9 0 v9.toList = W2 at *
  refine wpAnyH_all hr3 (by simp) fun i hi1 => ?_
  rw [List.mem_singleton] at hi1
  subst hi1
  refine wpOp_step h17 fun K' hK => ?_
  rw [if_pos (by simp [Region.wanted, q17])]
  refine wp_store_mid 26 _ _ p17 p10 0 v10 e10 f10 (by rw [s10]; exact n10''.there) (by rw [hi, s10]) t10 (hK _ _ ⟨hS _ b3, ?_⟩)
  rw [r17, put0]
  exact wpAnyH_done hr4 (hfin _ b3 k1'' l1' m1) _
theorem rep_agg {y : RV} {W : World} {v : Value} (h : y.Rep W v) : ∃ k h t al nl cl ak nk ck av nv cv, v = .agg #[.int .i64 k, .int .i64 h, .string t, .slice al nl cl, .slice ak nk ck, .slice av nv cv] ∧ y.kd = k := by
  obtain ⟨k, h', t, l, ks, vs⟩ := y
  unfold RV.Rep at h
  obtain ⟨al, cl, ak, ck, av, cv, rfl, -⟩ := h
  exact ⟨_, _, _, _, _, _, _, _, _, _, _, _, rfl, rfl⟩
theorem wpAnyH_relist {P : Program} {md : Region.Mode} {ops : Array Oper} {Q : Exit → Act → World → Prop} {S : World → Prop} {fuel : Nat} {l l' : Array Bool} {a : Act} {w : World} (h : l = l') (k : wpAnyH P md ops Q S fuel l' a w) : wpAnyH P md ops Q S fuel l a w := h ▸ k
/-- A variable's cells. -/
def CellsV (p : Nat) (c0 c1 c2 c3 c4 c5 : Value) (W : World) : Prop := W.cell? ⟨p, 0, none⟩ = some c0 ∧ W.cell? ⟨p, 1, none⟩ = some c1 ∧ W.cell? ⟨p, 2, none⟩ = some c2 ∧ W.cell? ⟨p, 3, none⟩ = some c3 ∧ W.cell? ⟨p, 4, none⟩ = some c4 ∧ W.cell? ⟨p, 5, none⟩ = some c5
theorem CellsV.kept {p : Nat} {c0 c1 c2 c3 c4 c5 : Value} {W W' : World} (h : CellsV p c0 c1 c2 c3 c4 c5 W) (hb : Below W.heap.size W W') : CellsV p c0 c1 c2 c3 c4 c5 W' := by
  have hlt := cell_lt h.1
  have h1 := fun o => (bcell hb).1 p o hlt
  unfold CellsV
  rw [h1, h1, h1, h1, h1, h1]
  exact h
theorem CellsV.of {p : Nat} {c0 c1 c2 c3 c4 c5 : Value} {W : World} (h : W.heap[p]? = some (.cells #[c0, c1, c2, c3, c4, c5] 26 (0, 0))) : CellsV p c0 c1 c2 c3 c4 c5 W := by
  unfold CellsV
  rw [Lib.cell_of_heap h, Lib.cell_of_heap h, Lib.cell_of_heap h, Lib.cell_of_heap h, Lib.cell_of_heap h, Lib.cell_of_heap h]
  exact ⟨rfl, rfl, rfl, rfl, rfl, rfl⟩
/-- The world in a round behind the three variables. -/
structure RWm (Lw : World → Prop) (x y z : RV) (p8 p9 p10 : Nat) (x0 x1 x2 x3 x4 x5 y0 y1 y2 y3 y4 y5 z0 z1 z2 z3 z4 z5 : Value) (W : World) : Prop where
  lw : Lw W
  c8 : CellsV p8 x0 x1 x2 x3 x4 x5 W
  c9 : CellsV p9 y0 y1 y2 y3 y4 y5 W
  c10 : CellsV p10 z0 z1 z2 z3 z4 z5 W
  rx : x.Rep W (.agg #[x0, x1, x2, x3, x4, x5])
  ry : y.Rep W (.agg #[y0, y1, y2, y3, y4, y5])
  rz : z.Rep W (.agg #[z0, z1, z2, z3, z4, z5])
theorem RWm.kept {Lw : World → Prop} (hl : ∀ W W', Lw W → Below W.heap.size W W' → Lw W') {x y z : RV} {p8 p9 p10 : Nat} {x0 x1 x2 x3 x4 x5 y0 y1 y2 y3 y4 y5 z0 z1 z2 z3 z4 z5 : Value} {W W' : World}
    (h : RWm Lw x y z p8 p9 p10 x0 x1 x2 x3 x4 x5 y0 y1 y2 y3 y4 y5 z0 z1 z2 z3 z4 z5 W) (hb : Below W.heap.size W W') : RWm Lw x y z p8 p9 p10 x0 x1 x2 x3 x4 x5 y0 y1 y2 y3 y4 y5 z0 z1 z2 z3 z4 z5 W' :=
  ⟨hl _ _ h.lw hb, h.c8.kept hb, h.c9.kept hb, h.c10.kept hb, h.rx.below hb, h.ry.below hb, h.rz.below hb⟩
theorem RV.AtR.small {t : RV} (hg : t.Good) {key : ByteArray} {y : RV} (h : t.AtR key y) : y.nodes ≤ t.nodes ∧ y.bytes ≤ t.bytes := by
  obtain ⟨i, h1, h2, h3, rfl⟩ := h
  have ha := RV.nodes_map t
  have hb := RV.bytes_map t
  have hz1 := zip_nodes t.keys t.vals hg.keys.2.1
  have hz2 := zip_bytes t.keys t.vals hg.keys.2.1
  have hm : (t.keys[i], t.vals[i]) ∈ t.keys.zip t.vals := List.mem_iff_getElem.2 ⟨i, by simp; omega, by simp⟩
  have e1 := le_sum (List.mem_map_of_mem (f := fun p : ByteArray × RV => p.2.nodes) hm)
  have e2 := le_sum (List.mem_map_of_mem (f := fun p : ByteArray × RV => p.1.size + p.2.bytes) hm)
  simp only at e1 e2
  constructor <;> omega
/-- What is so at a key of the product. -/
theorem merge_at {a b x y : RV} {ks : List ByteArray} {zs : List RV} {i : Nat} (h : MergeN 800 a b (.mk 6 0 ByteArray.empty [] ks zs)) (hi : i < ks.length) (hi' : i < zs.length) (ga : a.Good) (gb : b.Good)
    (hx : a.AtR ks[i] x ∨ (ks[i] ∉ a.keys ∧ x = nilR)) (hy : b.AtR ks[i] y ∨ (ks[i] ∉ b.keys ∧ y = nilR)) (gc : (RV.mk 6 0 ByteArray.empty [] ks zs).Good) :
    (ks[i] ∈ a.keys ∨ ks[i] ∈ b.keys) ∧ (x.kd = 6 → y.kd = 6 → a.AtR ks[i] x ∧ b.AtR ks[i] y ∧ MergeN 799 x y zs[i]) ∧ (¬ (x.kd = 6 ∧ y.kd = 6) → ks[i] ∈ b.keys → y = zs[i]) ∧ (ks[i] ∉ b.keys → x = zs[i]) ∧ x.Good ∧ y.Good ∧ zs[i].Good := by
  obtain ⟨ks', zs', he, -, -, hm, hat⟩ := h
  injection he with _ _ _ _ e1 e2
  subst e1 e2
  have hor := (hm ks[i]).1 (List.getElem_mem hi)
  have ht := hat i hi hi'
  refine ⟨hor, fun kx ky => ?_, fun hn hkb => ?_, fun hnb => ?_, ?_, ?_, ?_⟩
  · rcases hx with hx | ⟨-, rfl⟩
    · rcases hy with hy | ⟨-, rfl⟩
      · exact ⟨hx, hy, ((ht.1 y hy).1 x hx).1 ⟨kx, ky⟩⟩
      · exact absurd ky (by decide)
    · exact absurd kx (by decide)
  · rcases hy with hy | ⟨hy, -⟩
    · rcases hx with hx | ⟨hx, -⟩
      · exact (((ht.1 y hy).1 x hx).2 hn).symm
      · exact ((ht.1 y hy).2 hx).symm
    · exact absurd hkb hy
  · rcases hx with hx | ⟨hx, -⟩
    · exact (ht.2 hnb x hx).symm
    · exact absurd (hor.resolve_left hx) hnb
  · rcases hx with hx | ⟨-, rfl⟩
    · exact hx.good ga
    · exact nilR_good
  · rcases hy with hy | ⟨-, rfl⟩
    · exact hy.good gb
    · exact nilR_good
  · exact gc.keys.2.2.1.get i hi'
end Go.Proofs.YtjpcdbopioblaaaDoor
