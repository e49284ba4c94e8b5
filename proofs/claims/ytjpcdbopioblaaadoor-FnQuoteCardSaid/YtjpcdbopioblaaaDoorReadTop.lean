/- spec.Read walked on a string's JSON text. -/
import Derived.Test.YtjpcdbopioblaaaDoorReadAll
namespace Go.Proofs.YtjpcdbopioblaaaDoor
open Go.RowKit

/-- In Read: the result's block is the first new one, the reader's the second. -/
structure T0 (w : World) (src : ByteArray) (p : Int) (k t : ByteArray) (wr : World) : Prop where
  rd : Rd wr (w.heap.size + 1) src p k t false
  res : QB wr w.heap.size q0
  below : Below w.heap.size w wr
theorem T0.start (w : World) (src : ByteArray) : T0 w src 0 ⟨#[]⟩ ⟨#[]⟩ ((w.alloc (.cells #[.string ⟨#[]⟩, .string ⟨#[]⟩, .int .i64 0, .int .i64 0, .string ⟨#[]⟩, .slice none 0 0, .slice none 0 0, .slice none 0 0, .slice none 0 0, .slice none 0 0, .slice none 0 0, .slice none 0 0] 35)).alloc (.cells #[.string src, .int .i64 0, .string ⟨#[]⟩, .string ⟨#[]⟩, .bool false] 82)) := by
  refine ⟨?_, ?_, ((Below.refl _ _).alloc (Nat.le_refl _) _).alloc (by simp) _⟩
  · have := heap_alloc_new (w.alloc (.cells #[.string ⟨#[]⟩, .string ⟨#[]⟩, .int .i64 0, .int .i64 0, .string ⟨#[]⟩, .slice none 0 0, .slice none 0 0, .slice none 0 0, .slice none 0 0, .slice none 0 0, .slice none 0 0, .slice none 0 0] 35)) (.cells #[.string src, .int .i64 0, .string ⟨#[]⟩, .string ⟨#[]⟩, .bool false] 82)
    simpa [Rd] using this
  · unfold QB
    rw [heap_alloc_old _ _ (by simp)]
    exact heap_alloc_new w _
theorem T0.step {w : World} {src : ByteArray} {p p' : Int} {k t k' t' : ByteArray} {wr w' : World} (h : T0 w src p k t wr) (hg : wr.grownBy w' (some (w.heap.size + 1))) (hr : Rd w' (w.heap.size + 1) src p' k' t' false) : T0 w src p' k' t' w' :=
  ⟨hr, (hg.block _ h.res.lt (by intro e; injection e; omega)).trans h.res, below_gb h.below hg h.below.size (by omega)⟩
theorem T0.alloc {w : World} {src : ByteArray} {p : Int} {k t : ByteArray} {wr : World} (h : T0 w src p k t wr) (o : Obj) : T0 w src p k t (wr.alloc o) :=
  have hb : Below wr.heap.size wr (wr.alloc o) := (Below.refl _ _).alloc (Nat.le_refl _) o
  ⟨h.rd.kept hb, (hb.block _ h.res.lt).trans h.res, h.below.trans (hb.mono h.below.size)⟩
theorem T0.fin {w : World} {src : ByteArray} {p : Int} {k t : ByteArray} {wr wx : World} (h : T0 w src p k t wr) (hg : wr.grownBy wx (some w.heap.size)) : Below w.heap.size w wx := below_gb h.below hg h.below.size (Nat.le_refl _)

set_option maxRecDepth 100000 in
set_option maxHeartbeats 1600000 in
theorem read_any (s src : ByteArray) (w : World) (hE : IsEnc s src) (hs : src.size ≤ 140737488355328) :
    Calls Tryd.prog 16 #[.string src] w fun e w' => e = .returned (.tuple #[qv s, .bool true]) ∧ Below w.heap.size w w' := by
  have HM := Lib.hid (fun wx h => move_start (w.heap.size + 1) src ⟨#[]⟩ ⟨#[]⟩ false wx h hE.first.1 (by rw [hE.first.2]; rfl) hs)
  have HP := Lib.hid (pipe_any (w.heap.size + 1) s src hE hs)
  have H0 := Lib.hid (T0.start w src)
  clear hE
  go_enter Tryd.func16, Tryd.ntmps16
  go_wp2_with fail
  refine (HM.out _ H0.out.rd).mono ?_
  rintro e w2 ⟨rfl, hr2, hg2⟩
  have H2 := Lib.hid (H0.out.step hg2 hr2)
  clear hr2 hg2 HM H0
  go_wp2_with fail
  refine (HP.out _ H2.out.rd).mono ?_
  rintro e w3 ⟨rfl, hr3, hg3⟩
  have H3 := Lib.hid (H2.out.step hg3 hr3)
  clear hr3 hg3 HP H2
  have H4 := Lib.hid (fun o => H3.out.alloc o)
  clear H3
  unfold qv
  go_wp2_with fail
  have HQ := Lib.hid (QB.new (w := w3) (cs := #[.string ⟨#[118, 97, 108]⟩, .string ⟨#[]⟩, .int .i64 4, .int .i64 0, .string s, .slice none 0 0, .slice none 0 0, .slice none 0 0, .slice none 0 0, .slice none 0 0, .slice none 0 0, .slice none 0 0]) (Below.refl _ _))
  have HW := Lib.hid (H4.out (.cells #[.string ⟨#[118, 97, 108]⟩, .string ⟨#[]⟩, .int .i64 4, .int .i64 0, .string s, .slice none 0 0, .slice none 0 0, .slice none 0 0, .slice none 0 0, .slice none 0 0, .slice none 0 0, .slice none 0 0] 35))
  generalize hWW : w3.alloc (.cells #[.string ⟨#[118, 97, 108]⟩, .string ⟨#[]⟩, .int .i64 4, .int .i64 0, .string s, .slice none 0 0, .slice none 0 0, .slice none 0 0, .slice none 0 0, .slice none 0 0, .slice none 0 0, .slice none 0 0] 35) = W at *
  clear hWW H4
  have c4 := HW.out.rd.c4
  have c2 := HW.out.rd.c2
  have qcell : ∀ o, W.cell? ⟨w3.heap.size, o, none⟩ = (#[.string ⟨#[118, 97, 108]⟩, .string ⟨#[]⟩, .int .i64 4, .int .i64 0, .string s, .slice none 0 0, .slice none 0 0, .slice none 0 0, .slice none 0 0, .slice none 0 0, .slice none 0 0, .slice none 0 0] : Array Value)[o]? := HQ.out.cell
  have rc : ∀ o, W.cell? ⟨w.heap.size, o, none⟩ = (#[.string ⟨#[]⟩, .string ⟨#[]⟩, .int .i64 0, .int .i64 0, .string ⟨#[]⟩, .slice none 0 0, .slice none 0 0, .slice none 0 0, .slice none 0 0, .slice none 0 0, .slice none 0 0, .slice none 0 0] : Array Value)[o]? := HW.out.res.cell
  have rf := HW.out.res.fr
  go_region
  all_goals go_wp2_with fail
  refine bodyPost_ret (v := .tuple #[.agg #[.string ⟨#[118, 97, 108]⟩, .string ⟨#[]⟩, .int .i64 4, .int .i64 0, .string s, .slice none 0 0, .slice none 0 0, .slice none 0 0, .slice none 0 0, .slice none 0 0, .slice none 0 0, .slice none 0 0], .bool true]) (by rw [results_cell_tmp rfl]; go_simp) rfl ?_
  refine ⟨rfl, ?_⟩
  with_reducible refine HW.out.fin ?_
  repeat' (with_reducible first | exact World.grownBy.refl _ _ | refine gb_set ?_ _ _ | refine gb_drew ?_)
end Go.Proofs.YtjpcdbopioblaaaDoor
