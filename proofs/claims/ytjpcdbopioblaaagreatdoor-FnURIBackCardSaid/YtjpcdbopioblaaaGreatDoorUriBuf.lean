/- A buffer of the call's own that is filled from the front. -/
import Derived.Test.YtjpcdbopioblaaaGreatDoorByteRow
import Derived.Test.YtjpcdbopioblaaaGreatDoorUriEsc
import Derived.Lib.BufferWrite
import Derived.Lib.BufferMore
import Derived.Lib.ConvBytes
import Derived.Laws.CopyOwn
import Derived.Laws.MakeOwn
namespace Go.Proofs.YtjpcdbopioblaaaGreatDoor
open Go.RowKit

theorem take_set_succ {α : Type} (v : α) : ∀ (l : List α) (n : Nat), n < l.length → (l.set n v).take (n + 1) = l.take n ++ [v]
  | _ :: _, 0, _ => by simp
  | x :: l, n + 1, h => by
    have := take_set_succ v l n (by simpa using h)
    simpa using this
theorem take_set_in {α : Type} (v : α) : ∀ (l : List α) (n m : Nat), n < m → (l.set n v).take m = (l.take m).set n v
  | [], n, m, _ => by simp
  | _ :: _, 0, m + 1, _ => by simp
  | x :: l, n + 1, m + 1, h => by
    have := take_set_in v l n m (by omega)
    simpa using this

/-- In block b, N cells at least; the first ones hold these bytes; nothing else has turned. -/
structure EB (W : World) (b N : Nat) (acc : List UInt8) (wr : World) : Prop where
  g : W.grownBy wr (some b)
  row : ∃ (cs : Array Value) (T : TypeId), wr.heap[b]? = some (.cells cs T (0, 0)) ∧ N ≤ cs.size ∧ cs.toList.take acc.length = Lib.byteCells acc
  fits : acc.length ≤ N
theorem EB.start {W : World} {b N : Nat} {cs : Array Value} {T : TypeId} (hb : W.heap[b]? = some (.cells cs T (0, 0))) (hN : N ≤ cs.size) : EB W b N [] W :=
  ⟨World.grownBy.refl W _, ⟨cs, T, hb, hN, by simp [Lib.byteCells]⟩, Nat.zero_le _⟩
theorem EB.cell {W : World} {b N : Nat} {acc : List UInt8} {wr : World} (h : EB W b N acc wr) (j : Nat) (hj : j < N) : ∃ v, wr.cell? ⟨b, j, none⟩ = some v := by
  obtain ⟨_, ⟨cs, T, hb, hs, _⟩, _⟩ := h
  exact ⟨cs[j]'(by omega), by simp [World.cell?, hb, Array.getElem?_eq_getElem (show j < cs.size by omega)]⟩
theorem EB.free {W : World} {b N : Nat} {acc : List UInt8} {wr : World} (h : EB W b N acc wr) (o : Nat) : wr.frozen? ⟨b, o, none⟩ = false := by
  obtain ⟨_, ⟨cs, T, hb, _⟩, _⟩ := h
  simp [World.frozen?, hb]
theorem EB.push {W : World} {b N : Nat} {acc : List UInt8} {wr : World} (h : EB W b N acc wr) (hN : acc.length < N) (c : UInt8) : EB W b N (acc ++ [c]) (wr.setCell ⟨b, acc.length, none⟩ (.int .u8 c.toNat)) := by
  obtain ⟨g, ⟨cs, T, hb, hs, ht⟩, hf⟩ := h
  refine ⟨gb_set g _ _, ⟨cs.setIfInBounds acc.length (.int .u8 c.toNat), T, Lib.heap_setCell_same hb _, by simpa using hs, ?_⟩, by simp; omega⟩
  rw [List.length_append, Array.toList_setIfInBounds]
  show (cs.toList.set acc.length _).take (acc.length + 1) = _
  rw [take_set_succ _ cs.toList acc.length (by have e : cs.toList.length = cs.size := Array.length_toList; omega), ht]
  simp [Lib.byteCells]
theorem EB.put {W : World} {b N : Nat} {acc : List UInt8} {wr : World} (h : EB W b N acc wr) {j : Nat} (hj : j < acc.length) (c : UInt8) : EB W b N (acc.set j c) (wr.setCell ⟨b, j, none⟩ (.int .u8 c.toNat)) := by
  obtain ⟨g, ⟨cs, T, hb, hs, ht⟩, hf⟩ := h
  refine ⟨gb_set g _ _, ⟨cs.setIfInBounds j (.int .u8 c.toNat), T, Lib.heap_setCell_same hb _, by simpa using hs, ?_⟩, by simpa using hf⟩
  rw [List.length_set, Array.toList_setIfInBounds, take_set_in _ _ _ _ hj, ht]
  simp [Lib.byteCells, List.map_set]
theorem EB.text {W : World} {b N : Nat} {acc : List UInt8} {wr : World} (h : EB W b N acc wr) (hN : acc.length = N) (cap : Nat) : (convert 58 9 (.slice (some ⟨b, 0, none⟩) N cap)).run Tryz.prog wr = .ok (.string ⟨acc.toArray⟩) wr := by
  subst hN
  obtain ⟨g, ⟨cs, T, hb, hs, ht⟩, hf⟩ := h
  refine run_convert_bytes_back wr _ _ 5 ⟨b, 0, none⟩ cap acc Tryz.underlying58 Tryz.underlying5 Tryz.underlying9 (fun j hj => ?_)
  have h1 : (cs.toList.take acc.length)[j]? = some (.int .u8 (acc[j].toNat : Int)) := by
    rw [ht]; simp [Lib.byteCells, List.getElem?_eq_getElem hj]
  rw [List.getElem?_take_of_lt (by omega)] at h1
  have e : (⟨b, 0, none⟩ : Addr).add j = ⟨b, j, none⟩ := by unfold Addr.add; split <;> simp_all
  rw [e]
  simp only [World.cell?, hb]
  simpa using h1
/-- 'copy(t, s)' onto an empty buffer. -/
theorem EB.copy {W : World} {b N : Nat} {wr : World} (h : EB W b N [] wr) (s : ByteArray) (hs : s.size ≤ N) (cap : Nat) (ty : TypeId) : ∃ w', (Builtin.copy_ #[58, 9] ty #[.slice (some ⟨b, 0, none⟩) N cap, .string s]).run Tryz.prog wr = .ok (.int .i64 s.size) w' ∧ EB W b N s.data.toList w' := by
  obtain ⟨g, ⟨cs, T, hb, hz, ht⟩, hf⟩ := h
  have hl : s.data.toList.length = s.size := Array.length_toList
  have hlt : b < wr.heap.size := lt_of_block hb
  have hsz : (Lib.byteCells s.data.toList).length = s.size := by rw [Lib.byteCells_length, hl]
  refine ⟨_, Lib.run_copy_row_string wr _ _ ty 5 b 0 N cap s cs T Tryz.underlying58 (by kernel_rfl) hb hs (by omega), ⟨⟨g.os, g.tape, g.output, by simpa [World.setRow] using g.size, fun k hk hn => (setRow_other wr b k _ (by rintro rfl; exact hn rfl)).trans (g.block k hk hn)⟩, ⟨_, T, setRow_heap wr b cs _ T (0, 0) hb, ?_, ?_⟩, by omega⟩⟩
  · simp [hsz]; omega
  · rw [hl]
    simp only [List.take_zero, List.nil_append]
    rw [List.take_append_of_le_length (by omega), List.take_of_length_le (by omega)]
/-- 'make([]byte, n)'. -/
theorem made_row (w : World) (n : Nat) (x : Int) (hx : x = n) (hn : n ≤ 281474976710656) : (Instr.makeSlice 58 (.int .i64 x) (.int .i64 x)).run Tryz.prog w = .ok (.slice (some ⟨w.heap.size, 0, none⟩) n n) (w.alloc (.cells (madeCells (Value.int .u8 0).cells n) 5)) := by
  subst hx
  have hinfo : (Tryz.prog.info? 5).map (fun i => (i.zero, i.size, i.bytes)) = some (some (Value.int IntKind.u8 0), 1, 1) := by kernel_rfl
  obtain ⟨i, hi, he⟩ := Option.map_eq_some_iff.1 hinfo
  simp only [Prod.mk.injEq] at he
  have hr := run_make (P := Tryz.prog) w 58 5 i _ Tryz.underlying58 hi he.1 .i64 .i64 n n (by omega) (Int.le_refl _) (by rw [he.2.2]; omega) (by omega)
  simp only [Int.toNat_natCast, he.2.1, Nat.mul_one] at hr
  exact hr

/-- While a string is escaped into the buffer b, its bytes lying in b4. -/
structure ES (s : ByteArray) (w : World) (b b4 N : Nat) (acc : List UInt8) (wr : World) : Prop where
  eb : ∃ W, EB W b N acc wr
  view : ∀ j (hj : j < s.size), wr.cell? ⟨b4, j, none⟩ = some (.int .u8 s[j].toNat)
  below : Below w.heap.size w wr
  ne : b4 ≠ b
  le : w.heap.size ≤ b
theorem ES.cell {s : ByteArray} {w : World} {b b4 N : Nat} {acc : List UInt8} {wr : World} (h : ES s w b b4 N acc wr) (j : Nat) (hj : j < N) : ∃ v, wr.cell? ⟨b, j, none⟩ = some v := by
  obtain ⟨W, hb⟩ := h.eb
  exact hb.cell j hj
theorem ES.free {s : ByteArray} {w : World} {b b4 N : Nat} {acc : List UInt8} {wr : World} (h : ES s w b b4 N acc wr) (o : Nat) : wr.frozen? ⟨b, o, none⟩ = false := by
  obtain ⟨W, hb⟩ := h.eb
  exact hb.free o
theorem ES.kept {s : ByteArray} {w : World} {b b4 N : Nat} {acc acc' : List UInt8} {wr : World} (h : ES s w b b4 N acc wr) (i : Nat) (v : Value) (he : ∃ W, EB W b N acc' (wr.setCell ⟨b, i, none⟩ v)) : ES s w b b4 N acc' (wr.setCell ⟨b, i, none⟩ v) := by
  refine ⟨he, fun j hj => ?_, ?_, h.ne, h.le⟩
  · rw [World.cell?_setCell_other _ _ _ _ (by intro e; injection e with e; exact h.ne e.symm)]
    exact h.view j hj
  · exact h.below.setCell (p := ⟨b, i, none⟩) h.le _
theorem ES.push {s : ByteArray} {w : World} {b b4 N : Nat} {acc : List UInt8} {wr : World} (h : ES s w b b4 N acc wr) (hN : acc.length < N) (c : UInt8) : ES s w b b4 N (acc ++ [c]) (wr.setCell ⟨b, acc.length, none⟩ (.int .u8 c.toNat)) :=
  h.kept _ _ (by obtain ⟨W, hb⟩ := h.eb; exact ⟨W, hb.push hN c⟩)
theorem ES.put {s : ByteArray} {w : World} {b b4 N : Nat} {acc : List UInt8} {wr : World} (h : ES s w b b4 N acc wr) {j : Nat} (hj : j < acc.length) (c : UInt8) : ES s w b b4 N (acc.set j c) (wr.setCell ⟨b, j, none⟩ (.int .u8 c.toNat)) :=
  h.kept _ _ (by obtain ⟨W, hb⟩ := h.eb; exact ⟨W, hb.put hj c⟩)
theorem ES.text {s : ByteArray} {w : World} {b b4 N : Nat} {acc : List UInt8} {wr : World} (h : ES s w b b4 N acc wr) (hN : acc.length = N) (cap : Nat) : (convert 58 9 (.slice (some ⟨b, 0, none⟩) N cap)).run Tryz.prog wr = .ok (.string ⟨acc.toArray⟩) wr := by
  obtain ⟨W, hb⟩ := h.eb
  exact hb.text hN cap

theorem bytes_view (w : World) (e : TypeId) (s : ByteArray) (j : Nat) (hj : j < s.size) : (Lib.bytesWorld w e s).cell? ⟨w.heap.size, j, none⟩ = some (.int .u8 s[j].toNat) := by
  rw [Lib.bytesWorld_cell w e s j hj]
  have hl : j < s.data.toList.length := by simpa using hj
  rw [List.getD_eq_getElem?_getD, List.getElem?_eq_getElem hl]
  rfl
theorem bytes_below (w : World) (e : TypeId) (s : ByteArray) : Below w.heap.size w (Lib.bytesWorld w e s) := ⟨rfl, rfl, rfl, by rw [Lib.bytesWorld_size]; omega, fun k hk => Lib.bytesWorld_at_old w e s k hk⟩
theorem ES.start {s : ByteArray} {w w2 : World} {b N : Nat} {cs : Array Value} {T : TypeId} (hb : w2.heap[b]? = some (.cells cs T (0, 0))) (hN : N ≤ cs.size) (hB : Below w.heap.size w w2) (hle : w.heap.size ≤ b) : ES s w b w2.heap.size N [] (Lib.bytesWorld w2 5 s) := by
  have hlt : b < w2.heap.size := lt_of_block hb
  refine ⟨⟨_, EB.start (cs := cs) (T := T) ((Lib.bytesWorld_at_old w2 _ s b hlt).trans hb) hN⟩, fun j hj => bytes_view w2 _ s j hj, hB.trans ((bytes_below w2 _ s).mono hB.size), by omega, hle⟩
theorem ES.startA {s : ByteArray} {w wr : World} {N : Nat} (hB : Below w.heap.size w wr) (cs : Array Value) (T : TypeId) (hN : N ≤ cs.size) : ES s w wr.heap.size (wr.heap.size + 1) N [] (Lib.bytesWorld (wr.alloc (.cells cs T)) 5 s) := by
  have := ES.start (s := s) (w := w) (heap_alloc_new wr (.cells cs T)) hN (hB.trans (((Below.refl _ _).alloc (Nat.le_refl _) _).mono hB.size)) hB.size
  simpa using this
theorem ES.startB {s : ByteArray} {w wr : World} {N : Nat} (hB : Below w.heap.size w wr) (o : Obj) : ES s w (wr.heap.size + 1) (wr.heap.size + 1 + 1) N [] (Lib.bytesWorld ((wr.alloc o).alloc (.cells (madeCells (Value.int .u8 0).cells N) 5)) 5 s) := by
  have hb := heap_alloc_new (wr.alloc o) (.cells (madeCells (Value.int .u8 0).cells N) 5)
  have hB2 : Below w.heap.size w ((wr.alloc o).alloc (.cells (madeCells (Value.int .u8 0).cells N) 5)) := hB.trans ((((Below.refl _ _).alloc (Nat.le_refl _) _).alloc (by simp) _).mono hB.size)
  have := ES.start (s := s) (w := w) hb (by rw [size_madeCells]; exact Nat.le_refl _) hB2 (by have := hB.size; simp; omega)
  simpa using this
end Go.Proofs.YtjpcdbopioblaaaGreatDoor
