/- Between the two appends of a round of mapFromGo: plain laws. -/
import Derived.Test.YtjpcdbopioblaaaDoorFromGoL
namespace Go.Proofs.YtjpcdbopioblaaaDoor
open Go.RowKit

/-- An element that came back: it lies in blocks of its own, none of which is 'bad' (may still be written). -/
def Elem2 (lo : Nat) (w : World) (bad : Nat → Prop) (y : RV) (cs : List Value) : Prop :=
  ∃ c0 c1 c2 c3 c4 c5 a b, cs = [c0, c1, c2, c3, c4, c5] ∧ lo ≤ a ∧ b ≤ w.heap.size ∧ (∀ g, bad g → ¬ (a ≤ g ∧ g < b)) ∧
    ∀ wx, (∀ i, a ≤ i → i < b → wx.heap[i]? = w.heap[i]?) → y.Rep wx (.agg #[c0, c1, c2, c3, c4, c5])

theorem Elem2.step {lo : Nat} {w w' : World} {bad bad' : Nat → Prop} {y : RV} {cs : List Value} (h : Elem2 lo w bad y cs) (hw : ∀ k, lo ≤ k → k < w.heap.size → ¬ bad k → w'.heap[k]? = w.heap[k]?) (hz : w.heap.size ≤ w'.heap.size)
    (ho : ∀ g, bad' g → bad g ∨ w.heap.size ≤ g) : Elem2 lo w' bad' y cs := by
  obtain ⟨c0, c1, c2, c3, c4, c5, a, b, e, ha, hb, hg, hr⟩ := h
  refine ⟨c0, c1, c2, c3, c4, c5, a, b, e, ha, by omega, ?_, fun wx hx => hr wx fun i h1 h2 => ?_⟩
  · intro g hgo
    rcases ho g hgo with h | h
    · exact hg g h
    · omega
  · rw [hx i h1 h2]
    exact hw i (by omega) (by omega) (fun e => hg i e ⟨h1, h2⟩)

/-- The blocks of the two rows. -/
def Own2 (ck cv : Value) (g : Nat) : Prop := ck.ownBlock = some g ∨ cv.ownBlock = some g
/-- A row of the map's first keys. -/
def RowK (lo : Nat) (w : World) (sl : Value) (ks : List ByteArray) (i : Nat) : Prop := w.ownsRow lo 9 1 sl i ((ks.take i).map fun k => Value.string k)

theorem ownsRow_same {lo : Nat} {w w' : World} {e : TypeId} {size : Nat} {sl : Value} {n : Nat} {xs : List Value} (h : w.ownsRow lo e size sl n xs) (hw : ∀ g, sl.ownBlock = some g → w'.heap[g]? = w.heap[g]?) : w'.ownsRow lo e size sl n xs := by
  refine ⟨h.1, ?_⟩
  rcases h.2 with hn | ⟨g, cap, cur, rfl, hb, hg, rest⟩
  · exact .inl hn
  · exact .inr ⟨g, cap, cur, rfl, hb, (hw g rfl).trans hg, rest⟩

/-- Between the two appends: the world W, the keys' row (nk of them), the values' row (nv of them, their cells xs), the new value's cells. -/
structure Mid (lo : Nat) (ks : List ByteArray) (vs : List RV) (i T : Nat) (c0 c1 c2 c3 c4 c5 : Value) (W0 W : World) (ck : Value) (nk : Nat) (cv : Value) (nv : Nat) (xs : List Value) : Prop where
  size : W0.heap.size ≤ W.heap.size
  os : W.os = W0.os ∧ W.tape = W0.tape ∧ W.output = W0.output
  old : ∀ g, g < lo → W.heap[g]? = W0.heap[g]?
  le : lo ≤ W0.heap.size
  tlt : T < W0.heap.size
  tlo : lo ≤ T
  tsame : W.heap[T]? = W0.heap[T]?
  rowk : RowK lo W ck ks nk
  rowv : W.ownsRow lo 26 6 cv nv xs
  elems : ∀ (j : Nat) (_ : j < nv) (h : j < vs.length), Elem2 lo W (Own2 ck cv) vs[j] ((xs.drop (j * 6)).take 6)
  elem : ∀ (h : i < vs.length), Elem2 lo W (Own2 ck cv) vs[i] [c0, c1, c2, c3, c4, c5]
  apart : ∀ g, ck.ownBlock = some g → cv.ownBlock ≠ some g
  tk : ck.ownBlock ≠ some T
  tv : cv.ownBlock ≠ some T

variable {lo : Nat} {ks : List ByteArray} {vs : List RV} {i T : Nat} {c0 c1 c2 c3 c4 c5 : Value} {W0 W W' : World} {ck : Value} {nk : Nat} {cv : Value} {nv : Nat} {xs : List Value}

theorem Mid.alloc (h : Mid lo ks vs i T c0 c1 c2 c3 c4 c5 W0 W ck nk cv nv xs) (o : Obj) : Mid lo ks vs i T c0 c1 c2 c3 c4 c5 W0 (W.alloc o) ck nk cv nv xs := by
  have hz : W.heap.size ≤ (W.alloc o).heap.size := by simp
  have hs : ∀ g, g < W.heap.size → (W.alloc o).heap[g]? = W.heap[g]? := fun g hg => Below.heap_alloc W o g hg
  have hle := h.le
  have hsz := h.size
  have htl := h.tlt
  refine ⟨by omega, h.os, fun g hg => (hs g (by omega)).trans (h.old g hg), h.le, h.tlt, h.tlo, (hs T (by omega)).trans h.tsame, ?_, ?_, fun j hj hl => (h.elems j hj hl).step (fun k _ hk _ => hs k hk) hz (fun g hg => .inl hg), fun hl => (h.elem hl).step (fun k _ hk _ => hs k hk) hz (fun g hg => .inl hg), h.apart, h.tk, h.tv⟩
  · exact ownsRow_same h.rowk fun g hg => hs g (h.rowk.lt g hg).2
  · exact ownsRow_same h.rowv fun g hg => hs g (h.rowv.lt g hg).2

/-- Behind the append to the keys' row. -/
theorem Mid.pushK {ck' : Value} (h : Mid lo ks vs i T c0 c1 c2 c3 c4 c5 W0 W ck nk cv nv xs) (hg : W.grownBy W' ck.ownBlock) (hrow : RowK lo W' ck' ks (nk + 1)) (ho : ck'.ownBlock = ck.ownBlock ∨ ck'.ownBlock = some W.heap.size) :
    Mid lo ks vs i T c0 c1 c2 c3 c4 c5 W0 W' ck' (nk + 1) cv nv xs := by
  have hle := h.le
  have hsz := h.size
  have htl := h.tlt
  have klo : ∀ g, ck.ownBlock = some g → lo ≤ g := fun g e => (h.rowk.lt g e).1
  have hbad : ∀ g, Own2 ck' cv g → Own2 ck cv g ∨ W.heap.size ≤ g := fun g e => by
    rcases e with e | e
    · rcases ho with ho | ho
      · exact .inl (.inl (ho ▸ e))
      · rw [ho] at e; injection e with e; exact .inr (by omega)
    · exact .inl (.inr e)
  have hs : ∀ k, k < W.heap.size → ck.ownBlock ≠ some k → W'.heap[k]? = W.heap[k]? := fun k hk hne => hg.block k hk (fun e => hne e.symm)
  refine ⟨Nat.le_trans h.size hg.size, ⟨hg.os.trans h.os.1, hg.tape.trans h.os.2.1, hg.output.trans h.os.2.2⟩, fun g hgl => (hs g (by omega) (fun e => by have := klo g e; omega)).trans (h.old g hgl), h.le, h.tlt, h.tlo, (hs T (by omega) h.tk).trans h.tsame, hrow, ?_,
    fun j hj hl => (h.elems j hj hl).step (fun k _ hk hb => hs k hk (fun e => hb (.inl e))) hg.size hbad, fun hl => (h.elem hl).step (fun k _ hk hb => hs k hk (fun e => hb (.inl e))) hg.size hbad, ?_, ?_, h.tv⟩
  · exact ownsRow_same h.rowv fun g e => hs g (h.rowv.lt g e).2 (fun e2 => h.apart g e2 e)
  · intro g e e2
    rcases ho with ho | ho
    · exact h.apart g (ho ▸ e) e2
    · rw [ho] at e; injection e with e; have := (h.rowv.lt g e2).2; omega
  · intro e
    rcases ho with ho | ho
    · exact h.tk (ho ▸ e)
    · rw [ho] at e; injection e with e; omega

/-- Behind the append to the values' row. -/
theorem Mid.pushV {cv' : Value} (h : Mid lo ks vs i T c0 c1 c2 c3 c4 c5 W0 W ck nk cv i xs) (hi : i < vs.length) (hg : W.grownBy W' cv.ownBlock) (hrow : W'.ownsRow lo 26 6 cv' (i + 1) (xs ++ [c0, c1, c2, c3, c4, c5])) (ho : cv'.ownBlock = cv.ownBlock ∨ cv'.ownBlock = some W.heap.size) :
    Mid lo ks vs i T c0 c1 c2 c3 c4 c5 W0 W' ck nk cv' (i + 1) (xs ++ [c0, c1, c2, c3, c4, c5]) := by
  have hle := h.le
  have hsz := h.size
  have htl := h.tlt
  have vlo : ∀ g, cv.ownBlock = some g → lo ≤ g := fun g e => (h.rowv.lt g e).1
  have hbad : ∀ g, Own2 ck cv' g → Own2 ck cv g ∨ W.heap.size ≤ g := fun g e => by
    rcases e with e | e
    · exact .inl (.inl e)
    · rcases ho with ho | ho
      · exact .inl (.inr (ho ▸ e))
      · rw [ho] at e; injection e with e; exact .inr (by omega)
  have hs : ∀ k, k < W.heap.size → cv.ownBlock ≠ some k → W'.heap[k]? = W.heap[k]? := fun k hk hne => hg.block k hk (fun e => hne e.symm)
  have hel : ∀ {y : RV} {cs : List Value}, Elem2 lo W (Own2 ck cv) y cs → Elem2 lo W' (Own2 ck cv') y cs := fun he => he.step (fun k _ hk hb => hs k hk (fun e => hb (.inr e))) hg.size hbad
  refine ⟨Nat.le_trans h.size hg.size, ⟨hg.os.trans h.os.1, hg.tape.trans h.os.2.1, hg.output.trans h.os.2.2⟩, fun g hgl => (hs g (by omega) (fun e => by have := vlo g e; omega)).trans (h.old g hgl), h.le, h.tlt, h.tlo, (hs T (by omega) h.tv).trans h.tsame, ?_, hrow,
    fun j hj hl => ?_, fun hl => hel (h.elem hl), ?_, h.tk, ?_⟩
  · exact ownsRow_same h.rowk fun g e => hs g (h.rowk.lt g e).2 (fun e2 => h.apart g e e2)
  · have hlen := h.rowv.1
    rcases Nat.lt_or_ge j i with hji | hji
    · rw [List.drop_append_of_le_length (by omega), List.take_append_of_le_length (by simp; omega)]
      exact hel (h.elems j hji hl)
    · have : j = i := by omega
      subst this
      rw [List.drop_append, List.drop_eq_nil_of_le (by omega), hlen, Nat.sub_self]
      exact hel (h.elem hl)
  · intro g e e2
    rcases ho with ho | ho
    · exact h.apart g e (ho ▸ e2)
    · rw [ho] at e2; injection e2 with e2; have := (h.rowk.lt g e).2; omega
  · intro e
    rcases ho with ho | ho
    · exact h.tv (ho ▸ e)
    · rw [ho] at e; injection e with e; omega
end Go.Proofs.YtjpcdbopioblaaaDoor
