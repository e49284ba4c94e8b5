/- The map that mapFromGo makes, round by round: plain laws. -/
import Derived.Test.YtjpcdbopioblaaaDoorMapRow
import Derived.Test.YtjpcdbopioblaaaDoorSortedKeys
namespace Go.Proofs.YtjpcdbopioblaaaDoor
open Go.RowKit

theorem KeysAt.of {w : World} {b o : Nat} : ∀ (l : List ByteArray) (i : Nat), (∀ (j : Nat) (h : j < l.length), l[j].size ≤ reachN ∧ w.cell? ⟨b, o + (i + j), none⟩ = some (.string l[j])) → KeysAt w (some ⟨b, o, none⟩) i l
  | [], _, _ => trivial
  | y :: ys, i, h => by
    refine ⟨⟨b, o, rfl, (h 0 (by simp)).1, by have h2 := (h 0 (Nat.zero_lt_succ _)).2; rw [Nat.add_zero] at h2; exact h2⟩, KeysAt.of ys (i + 1) fun j hj => ?_⟩
    have := h (j + 1) (by simpa using hj)
    rw [show i + (j + 1) = i + 1 + j by omega] at this
    simpa using this

/-- The keys' row, full, is the keys. -/
theorem RowK.keysAt {lo : Nat} {w : World} {sl : Value} {ks : List ByteArray} (h : RowK lo w sl ks ks.length) (hk : ∀ k ∈ ks, k.size ≤ reachN) : ∃ a cap, sl = .slice a ks.length cap ∧ ∀ wx, SameFrom lo w wx → KeysAt wx a 0 ks := by
  unfold RowK at h
  rw [List.take_length] at h
  have hcell := fun g => h.cells (g := g)
  rcases h.2 with ⟨rfl, h0⟩ | ⟨g, cap, cur, rfl, hb, hg, _⟩
  · have : ks = [] := List.eq_nil_of_length_eq_zero h0
    subst this
    exact ⟨none, 0, rfl, fun _ _ => trivial⟩
  · refine ⟨_, cap, rfl, fun wx hx => KeysAt.of ks 0 fun j hj => ⟨hk _ (List.getElem_mem hj), ?_⟩⟩
    have hglt := (Array.getElem?_eq_some_iff.1 hg).1
    have h2 := hcell g rfl j (.string ks[j]) (by simp [hj])
    have e2 : (⟨g, 0, none⟩ : Addr).add j = ⟨g, 0 + (0 + j), none⟩ := by unfold Addr.add; split <;> simp_all
    rw [e2] at h2
    exact (World.cell?_of_block (hx g hb hglt)).trans h2

/-- The values' row, full, is the values. -/
theorem rows_repL {lo : Nat} {w : World} {sl : Value} {l : List RV} {bad : Nat → Prop} {xs : List Value} (hown : w.ownsRow lo 26 6 sl l.length xs) (hel : ∀ (j : Nat) (_ : j < l.length) (h : j < l.length), Elem2 lo w bad l[j] ((xs.drop (j * 6)).take 6)) :
    ∃ a cap, sl = .slice a l.length cap ∧ ∀ wx, SameFrom lo w wx → RV.RepL wx a 0 l := by
  have hlen := hown.1
  have hcell := fun g => hown.cells (g := g)
  rcases hown.2 with ⟨rfl, h0⟩ | ⟨g, cap, cur, rfl, hb, hg, hn, _, _, _⟩
  · have : l = [] := List.eq_nil_of_length_eq_zero h0
    subst this
    exact ⟨none, 0, rfl, fun _ _ => by unfold RV.RepL; trivial⟩
  · refine ⟨_, cap, rfl, fun wx hx => RV.RepL.of l 0 fun j hj => ?_⟩
    obtain ⟨c0, c1, c2, c3, c4, c5, a, b, e, ha, hb2, hgo, hr⟩ := hel j hj hj
    have hglt := (Array.getElem?_eq_some_iff.1 hg).1
    have get : ∀ (k : Nat) (c : Value), ([c0, c1, c2, c3, c4, c5] : List Value)[k]? = some c → wx.cell? ⟨g, 0 + (0 + j) * 6 + k, none⟩ = some c := by
      intro k c hk
      have hk6 : k < 6 := by
        rcases Nat.lt_or_ge k 6 with h | h
        · exact h
        · rw [List.getElem?_eq_none (by simpa using h)] at hk; cases hk
      have h1 : xs[j * 6 + k]? = some c := by
        rw [← e, List.getElem?_take, if_pos hk6, List.getElem?_drop] at hk
        exact hk
      have h2 := hcell g rfl (j * 6 + k) c h1
      have e2 : (⟨g, 0, none⟩ : Addr).add (j * 6 + k) = ⟨g, 0 + (0 + j) * 6 + k, none⟩ := by unfold Addr.add; split <;> simp_all
      rw [e2] at h2
      exact (World.cell?_of_block (hx g hb hglt)).trans h2
    exact ⟨c0, c1, c2, c3, c4, c5, get 0 _ rfl, get 1 _ rfl, get 2 _ rfl, get 3 _ rfl, get 4 _ rfl, get 5 _ rfl, hr wx fun i h1 h2 => hx i (by omega) (by omega)⟩

/-- The map that is being made: lo: the heap's size when the sorted keys are there. -/
structure OutM (w : World) (lo : Nat) (kv : Value) (ks : List ByteArray) (vs : List RV) (i : Nat) (slk slv : Value) (wr : World) : Prop where
  below : Below w.heap.size w wr
  lo2 : w.heap.size + 2 ≤ lo
  le : lo ≤ wr.heap.size
  keys : wr.ownsRow (w.heap.size + 2) 9 1 kv ks.length (ks.map fun k => Value.string k)
  klt : ∀ g, kv.ownBlock = some g → g < lo
  rowk : RowK lo wr slk ks i
  rowv : ∃ xs : List Value, wr.ownsRow lo 26 6 slv i xs ∧ ∀ (j : Nat) (_ : j < i) (h : j < vs.length), Elem2 lo wr (Own2 slk slv) vs[j] ((xs.drop (j * 6)).take 6)
  apart : ∀ g, slk.ownBlock = some g → slv.ownBlock ≠ some g
  cells : ∀ o, wr.cell? ⟨w.heap.size + 1, o, none⟩ = (#[.int .i64 6, .int .i64 0, .string ByteArray.empty, .slice none 0 0, slk, slv] : Array Value)[o]?
  frozen : ∀ o, wr.frozen? ⟨w.heap.size + 1, o, none⟩ = false
  res : ∀ o, wr.cell? ⟨w.heap.size, o, none⟩ = (#[.int .i64 0, .int .i64 0, .string ByteArray.empty, .slice none 0 0, .slice none 0 0, .slice none 0 0] : Array Value)[o]?
  rfrozen : ∀ o, wr.frozen? ⟨w.heap.size, o, none⟩ = false

theorem Tryd.infoString : (Tryd.prog.info? 9).map (fun i => (i.zero, i.size, i.bytes)) = some (some (.string ByteArray.empty), 1, 16) := by kernel_rfl

theorem OutM.start (w : World) (ks : List ByteArray) (vs : List RV) (kv : Value) (r : Nat) (w2 : World)
    (hrow : w2.ownsRow (w.heap.size + 1 + 1 + 1) 9 1 kv ks.length (ks.map fun k => Value.string k))
    (hb2 : Below (w.heap.size + 1 + 1 + 1) (((w.alloc (.cells #[.int .i64 0, .int .i64 0, .string ByteArray.empty, .slice none 0 0, .slice none 0 0, .slice none 0 0] 26)).alloc (.cells #[.int .i64 6, .int .i64 0, .string ByteArray.empty, .slice none 0 0, .slice none 0 0, .slice none 0 0] 26)).alloc (.cells #[.map (some r)] 94)) w2) :
    OutM w w2.heap.size kv ks vs 0 (.slice none 0 0) (.slice none 0 0) w2 := by
  have hz2 : w.heap.size + 3 ≤ w2.heap.size := by have := hb2.size; simp at this; omega
  have e1 : (w.alloc (.cells #[.int .i64 0, .int .i64 0, .string ByteArray.empty, .slice none 0 0, .slice none 0 0, .slice none 0 0] 26)).heap.size = w.heap.size + 1 := by simp
  have e2 : ((w.alloc (.cells #[.int .i64 0, .int .i64 0, .string ByteArray.empty, .slice none 0 0, .slice none 0 0, .slice none 0 0] 26)).alloc (.cells #[.int .i64 6, .int .i64 0, .string ByteArray.empty, .slice none 0 0, .slice none 0 0, .slice none 0 0] 26)).heap.size = w.heap.size + 2 := by simp
  have hA : w2.heap[w.heap.size]? = some (.cells #[.int .i64 0, .int .i64 0, .string ByteArray.empty, .slice none 0 0, .slice none 0 0, .slice none 0 0] 26 (0, 0)) :=
    (hb2.block _ (by omega)).trans ((Below.heap_alloc _ _ _ (by omega)).trans ((Below.heap_alloc _ _ _ (by omega)).trans (heap_alloc_new _ _)))
  have hB : w2.heap[w.heap.size + 1]? = some (.cells #[.int .i64 6, .int .i64 0, .string ByteArray.empty, .slice none 0 0, .slice none 0 0, .slice none 0 0] 26 (0, 0)) := by
    refine (hb2.block _ (by omega)).trans ((Below.heap_alloc _ _ _ (by omega)).trans ?_)
    rw [← e1]
    exact heap_alloc_new _ _
  refine ⟨((((Below.refl w.heap.size w).alloc (Nat.le_refl _) _).alloc (by simp) _).alloc (by simp; omega) _).trans (hb2.mono (by omega)), by omega, Nat.le_refl _, ⟨hrow.1, hrow.2.imp id fun ⟨g, cap, cur, h1, h2, h3⟩ => ⟨g, cap, cur, h1, by omega, h3⟩⟩, fun g e => (hrow.lt g e).2,
    World.ownsRow_nil _ _ _ _, ⟨[], World.ownsRow_nil _ _ _ _, fun j hj => absurd hj (Nat.not_lt_zero _)⟩, fun g e => by simp [Value.ownBlock] at e, fun o => cell_of_row _ _ o _ _ _ hB, fun o => by simp [World.frozen?, hB], fun o => cell_of_row _ _ o _ _ _ hA, fun o => by simp [World.frozen?, hA]⟩

theorem OutM.mid {w wr w1 W0 : World} {lo : Nat} {kv : Value} {ks : List ByteArray} {vs : List RV} {i : Nat} {slk slv c0 c1 c2 c3 c4 c5 : Value} (h : OutM w lo kv ks vs i slk slv wr) (hi : i < vs.length) (hb1 : Below wr.heap.size wr w1)
    (hh : vs[i].Here wr.heap.size w1 (.agg #[c0, c1, c2, c3, c4, c5])) (h0 : Below w1.heap.size w1 W0) (h1 : w1.heap.size < W0.heap.size) {ys : List Value} (hrv : wr.ownsRow lo 26 6 slv i ys)
    (hel : ∀ (j : Nat) (_ : j < i) (h : j < vs.length), Elem2 lo wr (Own2 slk slv) vs[j] ((ys.drop (j * 6)).take 6)) :
    Mid lo ks vs i w1.heap.size c0 c1 c2 c3 c4 c5 W0 W0 slk i slv i ys := by
  have hle := h.le
  have z1 := hb1.size
  have hs : ∀ g, g < wr.heap.size → W0.heap[g]? = wr.heap[g]? := fun g hg => (h0.block g (by omega)).trans (hb1.block g hg)
  have klt : ∀ g, slk.ownBlock = some g → g < wr.heap.size := fun g e => (h.rowk.lt g e).2
  have vlt : ∀ g, slv.ownBlock = some g → g < wr.heap.size := fun g e => (hrv.lt g e).2
  refine ⟨Nat.le_refl _, ⟨rfl, rfl, rfl⟩, fun _ _ => rfl, by omega, h1, by omega, rfl, ownsRow_same h.rowk fun g e => hs g (klt g e), ownsRow_same hrv fun g e => hs g (vlt g e),
    fun j hj hl => (hel j hj hl).step (fun k _ hk _ => hs k hk) (by omega) (fun g hg => .inl hg),
    fun _ => ⟨c0, c1, c2, c3, c4, c5, wr.heap.size, w1.heap.size, rfl, hle, by omega, fun g hg e => ?_, fun wx hx => hh wx fun kk h2 h3 => (hx kk h2 h3).trans (h0.block kk h3)⟩, h.apart, fun e => ?_, fun e => ?_⟩
  · rcases hg with hg | hg
    · have := klt g hg; omega
    · have := vlt g hg; omega
  · have := klt _ e; omega
  · have := vlt _ e; omega

/-- A round's end: both rows have grown by one, and stand in the fields. -/
theorem OutM.push {w wr w1 W0 W : World} {lo : Nat} {kv : Value} {ks : List ByteArray} {vs : List RV} {i : Nat} {slk slv ck cv c0 c1 c2 c3 c4 c5 : Value} {xs : List Value} (h : OutM w lo kv ks vs i slk slv wr) (hb1 : Below wr.heap.size wr w1)
    (h0 : Below w1.heap.size w1 W0) (hm : Mid lo ks vs i w1.heap.size c0 c1 c2 c3 c4 c5 W0 W ck (i + 1) cv (i + 1) xs) :
    OutM w lo kv ks vs (i + 1) ck cv ((W.setCell ⟨w.heap.size + 1, 4, none⟩ ck).setCell ⟨w.heap.size + 1, 5, none⟩ cv) := by
  have hle := h.le
  have hlo := h.lo2
  have z1 := hb1.size
  have z2 := h0.size
  have z3 := hm.size
  have zb := h.below.size
  have heap : ∀ g, g < lo → W.heap[g]? = wr.heap[g]? := fun g hg => (hm.old g hg).trans ((h0.block g (by omega)).trans (hb1.block g (by omega)))
  have other : ∀ g, g ≠ w.heap.size + 1 → ((W.setCell ⟨w.heap.size + 1, 4, none⟩ ck).setCell ⟨w.heap.size + 1, 5, none⟩ cv).heap[g]? = W.heap[g]? := fun g hg =>
    (Below.heap_setCell _ ⟨w.heap.size + 1, 5, none⟩ cv g hg).trans (Below.heap_setCell W ⟨w.heap.size + 1, 4, none⟩ ck g hg)
  have hsz : ((W.setCell ⟨w.heap.size + 1, 4, none⟩ ck).setCell ⟨w.heap.size + 1, 5, none⟩ cv).heap.size = W.heap.size := by simp [World.setCell]
  have hbW : Below w.heap.size w W := ⟨hm.os.1.trans (h0.os.trans (hb1.os.trans h.below.os)), hm.os.2.1.trans (h0.tape.trans (hb1.tape.trans h.below.tape)), hm.os.2.2.trans (h0.output.trans (hb1.output.trans h.below.output)), by omega, fun k hk => (heap k (by omega)).trans (h.below.block k hk)⟩
  refine ⟨(hbW.setCell (Nat.le_succ _) ck).setCell (Nat.le_succ _) cv, hlo, by rw [hsz]; omega, ownsRow_same h.keys fun g e => (other g (by have := (h.keys.lt g e).1; omega)).trans (heap g (h.klt g e)), h.klt, ownsRow_same hm.rowk fun g e => other g (by have := (hm.rowk.lt g e).1; omega),
    ⟨xs, ownsRow_same hm.rowv fun g e => other g (by have := (hm.rowv.lt g e).1; omega), fun j hj hl => (hm.elems j hj hl).step (fun k hk _ _ => other k (by omega)) (by rw [hsz]; exact Nat.le_refl _) (fun g hg => .inl hg)⟩, hm.apart, fun o => ?_, fun o => ?_, fun o => ?_, fun o => ?_⟩
  · have cell : ∀ o, W.cell? ⟨w.heap.size + 1, o, none⟩ = wr.cell? ⟨w.heap.size + 1, o, none⟩ := fun o => World.cell?_of_block (heap (w.heap.size + 1) (by omega))
    by_cases o5 : o = 5
    · subst o5
      rw [World.cell?_setCell_same _ _ _ (u := slv) (by rw [World.cell?_setCell_other _ _ _ _ (by intro e; injection e with _ e2; cases e2), cell 5]; exact h.cells 5)]
      rfl
    · rw [World.cell?_setCell_other _ _ _ _ (by intro e; injection e with _ e2; exact o5 e2.symm)]
      by_cases o4 : o = 4
      · subst o4
        rw [World.cell?_setCell_same _ _ _ ((cell 4).trans (h.cells 4))]
        rfl
      · rw [World.cell?_setCell_other _ _ _ _ (by intro e; injection e with _ e2; exact o4 e2.symm), cell o, h.cells o]
        match o, o4, o5 with
        | 0, _, _ => rfl
        | 1, _, _ => rfl
        | 2, _, _ => rfl
        | 3, _, _ => rfl
        | (n + 6), _, _ => simp
  · rw [World.frozen?_setCell, World.frozen?_setCell, World.frozen?_of_block (heap (w.heap.size + 1) (by omega))]; exact h.frozen o
  · rw [World.cell?_of_block ((other w.heap.size (by omega)).trans (heap w.heap.size (by omega)))]; exact h.res o
  · rw [World.frozen?_of_block ((other w.heap.size (by omega)).trans (heap w.heap.size (by omega)))]; exact h.rfrozen o
end Go.Proofs.YtjpcdbopioblaaaDoor
