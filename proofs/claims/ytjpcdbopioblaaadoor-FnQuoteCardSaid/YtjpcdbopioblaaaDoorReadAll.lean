/- The reference's reader of queries: a string alone, read whole. -/
import Derived.Test.YtjpcdbopioblaaaDoorReadStr
namespace Go.Proofs.YtjpcdbopioblaaaDoor
open Go.RowKit

theorem is_str (rb : Nat) (s t x : ByteArray) (p : Int) (bad : Bool) (w : World) (h : Rd w rb s p kStr t bad) :
    Calls Tryd.prog 68 #[.pointer (some ⟨rb, 0, none⟩), .string x] w fun e w' => e = .returned (.bool false) ∧ Below w.heap.size w w' := by
  have c2 := h.c2
  go_enter Tryd.func68, Tryd.ntmps68
  go_wp2_with fail
  go_ret
  exact ⟨rfl, Below.refl _ _⟩

abbrev qc (s : ByteArray) : Array Value := #[.string ⟨#[118, 97, 108]⟩, .string ⟨#[]⟩, .int .i64 4, .int .i64 0, .string s, .slice none 0 0, .slice none 0 0, .slice none 0 0, .slice none 0 0, .slice none 0 0, .slice none 0 0, .slice none 0 0]
/-- Behind the string, the result's block being R. -/
structure TR (w : World) (rb : Nat) (src : ByteArray) (R : Nat) (wr : World) : Prop where
  rd : Rd wr rb src src.size kEnd ⟨#[]⟩ false
  g : w.grownBy wr (some rb)
  res : QB wr R q0
  lt : rb < w.heap.size
  le : w.heap.size ≤ R
theorem TR.kept {w : World} {rb : Nat} {src : ByteArray} {R : Nat} {wr w' : World} (h : TR w rb src R wr) (hb : Below wr.heap.size wr w') : TR w rb src R w' :=
  ⟨h.rd.kept hb, gb_below h.g hb, (hb.block _ h.res.lt).trans h.res, h.lt, h.le⟩
theorem TR.alloc {w : World} {rb : Nat} {src : ByteArray} {R : Nat} {wr : World} (h : TR w rb src R wr) (o : Obj) : TR w rb src R (wr.alloc o) := h.kept ((Below.refl _ _).alloc (Nat.le_refl _) _)
theorem TR.fin {w : World} {rb : Nat} {src : ByteArray} {R : Nat} {wr wx : World} (h : TR w rb src R wr) (hg : wr.grownBy wx (some R)) : Rd wx rb src src.size kEnd ⟨#[]⟩ false ∧ w.grownBy wx (some rb) :=
  ⟨(hg.block rb h.rd.lt (by have h1 := h.lt; have h2 := h.le; intro e; injection e; omega)).trans h.rd, ⟨hg.os.trans h.g.os, hg.tape.trans h.g.tape, hg.output.trans h.g.output, Nat.le_trans h.g.size hg.size, fun k hk hn => (hg.block k (Nat.lt_of_lt_of_le hk h.g.size) (by have h2 := h.le; intro e; injection e; omega)).trans (h.g.block k hk hn)⟩⟩
theorem TR.more {w : World} {rb : Nat} {src : ByteArray} {R : Nat} {wr w' : World} (h : TR w rb src R wr) (hg : wr.grownBy w' (some rb)) (hr : Rd w' rb src src.size kEnd ⟨#[]⟩ false) : TR w rb src R w' :=
  ⟨hr, gb_trans h.g hg, (hg.block _ h.res.lt (by have h1 := h.lt; have h2 := h.le; intro e; injection e; omega)).trans h.res, h.lt, h.le⟩
/-- Ahead of it. -/
structure TB (w : World) (rb : Nat) (src : ByteArray) (R : Nat) (wr : World) : Prop where
  rd : Rd wr rb src 1 kStr ⟨#[]⟩ false
  g : w.grownBy wr (some rb)
  res : QB wr R q0
  lt : rb < w.heap.size
  le : w.heap.size ≤ R
theorem TB.kept {w : World} {rb : Nat} {src : ByteArray} {R : Nat} {wr w' : World} (h : TB w rb src R wr) (hb : Below wr.heap.size wr w') : TB w rb src R w' :=
  ⟨h.rd.kept hb, gb_below h.g hb, (hb.block _ h.res.lt).trans h.res, h.lt, h.le⟩
theorem TB.alloc {w : World} {rb : Nat} {src : ByteArray} {R : Nat} {wr : World} (h : TB w rb src R wr) (o : Obj) : TB w rb src R (wr.alloc o) := h.kept ((Below.refl _ _).alloc (Nat.le_refl _) _)
theorem TB.more {w : World} {rb : Nat} {src : ByteArray} {R : Nat} {wr w' : World} (h : TB w rb src R wr) (hg : wr.grownBy w' (some rb)) (hr : Rd w' rb src src.size kEnd ⟨#[]⟩ false) : TR w rb src R w' :=
  ⟨hr, gb_trans h.g hg, (hg.block _ h.res.lt (by have h1 := h.lt; have h2 := h.le; intro e; injection e; omega)).trans h.res, h.lt, h.le⟩
theorem TB.start {w : World} {rb : Nat} {src : ByteArray} (h : Rd w rb src 1 kStr ⟨#[]⟩ false) : TB w rb src w.heap.size (w.alloc (.cells #[.string ⟨#[]⟩, .string ⟨#[]⟩, .int .i64 0, .int .i64 0, .string ⟨#[]⟩, .slice none 0 0, .slice none 0 0, .slice none 0 0, .slice none 0 0, .slice none 0 0, .slice none 0 0, .slice none 0 0] 35)) :=
  ⟨h.kept ((Below.refl _ _).alloc (Nat.le_refl _) _), gb_alloc (World.grownBy.refl w _) _, heap_alloc_new w _, h.lt, Nat.le_refl _⟩
theorem TR.start {w : World} {rb : Nat} {src : ByteArray} (h : Rd w rb src src.size kEnd ⟨#[]⟩ false) (o : Obj) : TR w rb src (w.heap.size + 1) ((w.alloc o).alloc (.cells #[.string ⟨#[]⟩, .string ⟨#[]⟩, .int .i64 0, .int .i64 0, .string ⟨#[]⟩, .slice none 0 0, .slice none 0 0, .slice none 0 0, .slice none 0 0, .slice none 0 0, .slice none 0 0, .slice none 0 0] 35)) := by
  refine ⟨h.kept (((Below.refl _ _).alloc (Nat.le_refl _) _).alloc (by simp) _), gb_alloc (gb_alloc (World.grownBy.refl w _) _) _, ?_, h.lt, by omega⟩
  have := heap_alloc_new (w.alloc o) (.cells #[.string ⟨#[]⟩, .string ⟨#[]⟩, .int .i64 0, .int .i64 0, .string ⟨#[]⟩, .slice none 0 0, .slice none 0 0, .slice none 0 0, .slice none 0 0, .slice none 0 0, .slice none 0 0, .slice none 0 0] 35)
  simpa [QB] using this
theorem QB.new {w w' : World} {cs : Array Value} (hb : Below (w.alloc (.cells cs 35)).heap.size (w.alloc (.cells cs 35)) w') : QB w' w.heap.size cs := (hb.block _ (by simp)).trans (heap_alloc_new w _)
def SubIH (f : FuncId) (s src : ByteArray) (rb : Nat) : Prop := ∀ w, Rd w rb src 1 kStr ⟨#[]⟩ false → Calls Tryd.prog f #[.pointer (some ⟨rb, 0, none⟩)] w (ReadPost s src rb w)

set_option maxRecDepth 100000 in
set_option maxHeartbeats 1600000 in
theorem first_read (rb : Nat) (s src : ByteArray) (hE : IsEnc s src) (hs : src.size ≤ 140737488355328) (w : World) (h : Rd w rb src 1 kStr ⟨#[]⟩ false) :
    Calls Tryd.prog 126 #[.pointer (some ⟨rb, 0, none⟩)] w (ReadPost s src rb w) := by
  have HT := Lib.hid (fun wx hx => text_read rb s src wx hx hE hs)
  have HB := Lib.hid (TB.start h)
  have c2 : ∀ o, (w.alloc o).cell? ⟨rb, 2, none⟩ = some (.string kStr) := fun o => (h.kept ((Below.refl _ _).alloc (Nat.le_refl _) o)).c2
  have c3 : ∀ o, (w.alloc o).cell? ⟨rb, 3, none⟩ = some (.string ⟨#[]⟩) := fun o => (h.kept ((Below.refl _ _).alloc (Nat.le_refl _) o)).c3
  clear h hE hs
  unfold ReadPost
  go_enter Tryd.func126, Tryd.ntmps126
  go_wp2_with fail
  refine (HT.out _ (HB.out.alloc _).rd).mono ?_
  rintro e w3 ⟨rfl, hr3, hg3⟩
  have H3 := Lib.hid ((HB.out.alloc _).more hg3 hr3)
  clear hr3 hg3 HT HB c2 c3
  unfold qv
  have rc : ∀ o, w3.cell? ⟨w.heap.size, o, none⟩ = (#[.string ⟨#[]⟩, .string ⟨#[]⟩, .int .i64 0, .int .i64 0, .string ⟨#[]⟩, .slice none 0 0, .slice none 0 0, .slice none 0 0, .slice none 0 0, .slice none 0 0, .slice none 0 0, .slice none 0 0] : Array Value)[o]? := H3.out.res.cell
  have rf := H3.out.res.fr
  go_wp2_with fail
  refine bodyPost_ret (v := .agg #[.string ⟨#[118, 97, 108]⟩, .string ⟨#[]⟩, .int .i64 4, .int .i64 0, .string s, .slice none 0 0, .slice none 0 0, .slice none 0 0, .slice none 0 0, .slice none 0 0, .slice none 0 0, .slice none 0 0]) (by rw [results_cell rfl]; go_simp) rfl ?_
  refine ⟨rfl, ?_⟩
  with_reducible refine H3.out.fin ?_
  repeat' (with_reducible first | exact World.grownBy.refl _ _ | refine gb_set ?_ _ _)

set_option maxRecDepth 100000 in
set_option maxHeartbeats 1600000 in
theorem bound_read (rb : Nat) (s src : ByteArray) (w : World) (h : Rd w rb src src.size kEnd ⟨#[]⟩ false) :
    Calls Tryd.prog 115 #[.pointer (some ⟨rb, 0, none⟩), .agg #[.string ⟨#[118, 97, 108]⟩, .string ⟨#[]⟩, .int .i64 4, .int .i64 0, .string s, .slice none 0 0, .slice none 0 0, .slice none 0 0, .slice none 0 0, .slice none 0 0, .slice none 0 0, .slice none 0 0]] w (ReadPost s src rb w) := by
  have HB := Lib.hid (fun o => TR.start h o)
  have HQ := Lib.hid (fun (w4 : World) (hb : Below ((w.alloc (.cells (qc s) 35)).alloc (.cells q0 35)).heap.size ((w.alloc (.cells (qc s) 35)).alloc (.cells q0 35)) w4) => (show QB w4 w.heap.size (qc s) from (hb.block _ (by simp; omega)).trans ((heap_alloc_old _ _ (by simp)).trans (heap_alloc_new w _))))
  clear h
  unfold ReadPost
  go_enter Tryd.func115, Tryd.ntmps115
  go_wp2_with fail
  refine (is_end rb src ⟨#[]⟩ _ _ false _ (HB.out _).rd).mono ?_
  rintro e w4 ⟨rfl, hb4⟩
  have H4 := Lib.hid ((HB.out _).kept hb4)
  have qcell : ∀ o, w4.cell? ⟨w.heap.size, o, none⟩ = (#[.string ⟨#[118, 97, 108]⟩, .string ⟨#[]⟩, .int .i64 4, .int .i64 0, .string s, .slice none 0 0, .slice none 0 0, .slice none 0 0, .slice none 0 0, .slice none 0 0, .slice none 0 0, .slice none 0 0] : Array Value)[o]? := (HQ.out w4 hb4).cell
  clear hb4 HQ HB
  have rc : ∀ o, w4.cell? ⟨(w.heap.size + 1), o, none⟩ = (#[.string ⟨#[]⟩, .string ⟨#[]⟩, .int .i64 0, .int .i64 0, .string ⟨#[]⟩, .slice none 0 0, .slice none 0 0, .slice none 0 0, .slice none 0 0, .slice none 0 0, .slice none 0 0, .slice none 0 0] : Array Value)[o]? := H4.out.res.cell
  have rf := H4.out.res.fr
  go_wp2_with fail
  refine bodyPost_ret (v := .agg #[.string ⟨#[118, 97, 108]⟩, .string ⟨#[]⟩, .int .i64 4, .int .i64 0, .string s, .slice none 0 0, .slice none 0 0, .slice none 0 0, .slice none 0 0, .slice none 0 0, .slice none 0 0, .slice none 0 0]) (by rw [results_cell rfl]; go_simp) rfl ?_
  refine ⟨rfl, ?_⟩
  with_reducible refine H4.out.fin ?_
  repeat' (with_reducible first | exact World.grownBy.refl _ _ | refine gb_set ?_ _ _)

set_option maxRecDepth 100000 in
set_option maxHeartbeats 3200000 in
theorem term_read (rb : Nat) (s src : ByteArray) (hF : SubIH 126 s src rb) (w : World) (h : Rd w rb src 1 kStr ⟨#[]⟩ false) :
    Calls Tryd.prog 116 #[.pointer (some ⟨rb, 0, none⟩)] w (ReadPost s src rb w) := by
  have HF := Lib.hid hF
  have HB := Lib.hid (TB.start h)
  clear h hF
  unfold ReadPost
  go_enter Tryd.func116, Tryd.ntmps116
  go_wp2_with fail
  refine (HF.out _ HB.out.rd).mono ?_
  rintro e w3 ⟨rfl, hr3, hg3⟩
  have H3 := Lib.hid (HB.out.more hg3 hr3)
  have H3a := Lib.hid (fun o => H3.out.alloc o)
  clear hr3 hg3 HF HB
  unfold qv
  go_wp2_with fail
  go_loopg [] (0) (fun gk wr => gk = 0 ∧ wr = w3.alloc (.cells #[.string ⟨#[118, 97, 108]⟩, .string ⟨#[]⟩, .int .i64 4, .int .i64 0, .string s, .slice none 0 0, .slice none 0 0, .slice none 0 0, .slice none 0 0, .slice none 0 0, .slice none 0 0, .slice none 0 0] 35))
  case atStart => exact ⟨rfl, rfl⟩
  case round =>
    obtain ⟨rfl, rfl⟩ := hrel
    have HQ := Lib.hid (fun (w4 : World) hb => QB.new (w := w3) (cs := #[.string ⟨#[118, 97, 108]⟩, .string ⟨#[]⟩, .int .i64 4, .int .i64 0, .string s, .slice none 0 0, .slice none 0 0, .slice none 0 0, .slice none 0 0, .slice none 0 0, .slice none 0 0, .slice none 0 0]) (w' := w4) hb)
    have HX := Lib.hid (Below.refl (w3.alloc (.cells #[.string ⟨#[118, 97, 108]⟩, .string ⟨#[]⟩, .int .i64 4, .int .i64 0, .string s, .slice none 0 0, .slice none 0 0, .slice none 0 0, .slice none 0 0, .slice none 0 0, .slice none 0 0, .slice none 0 0] 35)).heap.size (w3.alloc (.cells #[.string ⟨#[118, 97, 108]⟩, .string ⟨#[]⟩, .int .i64 4, .int .i64 0, .string s, .slice none 0 0, .slice none 0 0, .slice none 0 0, .slice none 0 0, .slice none 0 0, .slice none 0 0, .slice none 0 0] 35)))
    have HW := Lib.hid (H3a.out (.cells #[.string ⟨#[118, 97, 108]⟩, .string ⟨#[]⟩, .int .i64 4, .int .i64 0, .string s, .slice none 0 0, .slice none 0 0, .slice none 0 0, .slice none 0 0, .slice none 0 0, .slice none 0 0, .slice none 0 0] 35))
    clear H3 H3a
    generalize hWW : w3.alloc (.cells #[.string ⟨#[118, 97, 108]⟩, .string ⟨#[]⟩, .int .i64 4, .int .i64 0, .string s, .slice none 0 0, .slice none 0 0, .slice none 0 0, .slice none 0 0, .slice none 0 0, .slice none 0 0, .slice none 0 0] 35) = W at *
    clear hWW
    have c4 := HW.out.rd.c4
    have c2 := HW.out.rd.c2
    go_wp2_with fail
    refine (is_end rb src ⟨#[]⟩ _ _ false _ HW.out.rd).mono ?_
    rintro e w4 ⟨rfl, hb4⟩
    have H4 := Lib.hid (HW.out.kept hb4)
    have HX4 := Lib.hid (HX.out.trans hb4)
    clear hb4 c4 c2 HX HW
    go_wp2_with fail
    refine (is_end rb src ⟨#[]⟩ _ _ false _ H4.out.rd).mono ?_
    rintro e w5 ⟨rfl, hb5⟩
    have H5 := Lib.hid (H4.out.kept hb5)
    have HX5 := Lib.hid (HX4.out.trans (hb5.mono HX4.out.size))
    clear hb5 HX4 H4
    go_wp2_with fail
    refine (is_end rb src ⟨#[]⟩ _ _ false _ H5.out.rd).mono ?_
    rintro e w6 ⟨rfl, hb6⟩
    have H6 := Lib.hid (H5.out.kept hb6)
    have HX6 := Lib.hid (HX5.out.trans (hb6.mono HX5.out.size))
    have qcell : ∀ o, w6.cell? ⟨w3.heap.size, o, none⟩ = (#[.string ⟨#[118, 97, 108]⟩, .string ⟨#[]⟩, .int .i64 4, .int .i64 0, .string s, .slice none 0 0, .slice none 0 0, .slice none 0 0, .slice none 0 0, .slice none 0 0, .slice none 0 0, .slice none 0 0] : Array Value)[o]? := (HQ.out w6 HX6.out).cell
    clear hb6 HX5 H5 HQ HX6
    have rc : ∀ o, w6.cell? ⟨w.heap.size, o, none⟩ = (#[.string ⟨#[]⟩, .string ⟨#[]⟩, .int .i64 0, .int .i64 0, .string ⟨#[]⟩, .slice none 0 0, .slice none 0 0, .slice none 0 0, .slice none 0 0, .slice none 0 0, .slice none 0 0, .slice none 0 0] : Array Value)[o]? := H6.out.res.cell
    have rf := H6.out.res.fr
    go_wp2_with fail
    refine bodyPost_ret (v := .agg #[.string ⟨#[118, 97, 108]⟩, .string ⟨#[]⟩, .int .i64 4, .int .i64 0, .string s, .slice none 0 0, .slice none 0 0, .slice none 0 0, .slice none 0 0, .slice none 0 0, .slice none 0 0, .slice none 0 0]) (by rw [results_cell rfl]; go_simp) rfl ?_
    refine ⟨rfl, ?_⟩
    with_reducible refine H6.out.fin ?_
    repeat' (with_reducible first | exact World.grownBy.refl _ _ | refine gb_set ?_ _ _)

set_option maxRecDepth 100000 in
set_option maxHeartbeats 1600000 in
theorem unary_read (rb : Nat) (s src : ByteArray) (hF : SubIH 116 s src rb) (w : World) (h : Rd w rb src 1 kStr ⟨#[]⟩ false) :
    Calls Tryd.prog 105 #[.pointer (some ⟨rb, 0, none⟩)] w (ReadPost s src rb w) := by
  have HF := Lib.hid hF
  have HB := Lib.hid (TB.start h)
  clear h hF
  unfold ReadPost
  go_enter Tryd.func105, Tryd.ntmps105
  go_wp2_with fail
  refine (is_str rb src ⟨#[]⟩ _ _ false _ HB.out.rd).mono ?_
  rintro e w3 ⟨rfl, hb3⟩
  have H3 := Lib.hid (HB.out.kept hb3)
  clear hb3 HB
  go_wp2_with fail
  refine (HF.out _ H3.out.rd).mono ?_
  rintro e w4 ⟨rfl, hr4, hg4⟩
  have H4 := Lib.hid (H3.out.more hg4 hr4)
  clear hr4 hg4 HF H3
  unfold qv
  go_wp2_with fail
  refine (bound_read rb s src _ H4.out.rd).mono ?_
  rintro e w5 ⟨rfl, hr5, hg5⟩
  have H5 := Lib.hid (H4.out.more hg5 hr5)
  clear hr5 hg5 H4
  unfold qv
  have rc : ∀ o, w5.cell? ⟨w.heap.size, o, none⟩ = (#[.string ⟨#[]⟩, .string ⟨#[]⟩, .int .i64 0, .int .i64 0, .string ⟨#[]⟩, .slice none 0 0, .slice none 0 0, .slice none 0 0, .slice none 0 0, .slice none 0 0, .slice none 0 0, .slice none 0 0] : Array Value)[o]? := H5.out.res.cell
  have rf := H5.out.res.fr
  go_wp2_with fail
  refine bodyPost_ret (v := .agg #[.string ⟨#[118, 97, 108]⟩, .string ⟨#[]⟩, .int .i64 4, .int .i64 0, .string s, .slice none 0 0, .slice none 0 0, .slice none 0 0, .slice none 0 0, .slice none 0 0, .slice none 0 0, .slice none 0 0]) (by rw [results_cell rfl]; go_simp) rfl ?_
  refine ⟨rfl, ?_⟩
  with_reducible refine H5.out.fin ?_
  repeat' (with_reducible first | exact World.grownBy.refl _ _ | refine gb_set ?_ _ _)

def LevIH (n : Int) (s src : ByteArray) (rb : Nat) : Prop := ∀ w, Rd w rb src 1 kStr ⟨#[]⟩ false → Calls Tryd.prog 97 #[.pointer (some ⟨rb, 0, none⟩), .int .i64 n] w (ReadPost s src rb w)

set_option maxRecDepth 100000 in
set_option maxHeartbeats 1600000 in
theorem level_top (rb : Nat) (s src : ByteArray) (hF : SubIH 105 s src rb) (w : World) (h : Rd w rb src 1 kStr ⟨#[]⟩ false) :
    Calls Tryd.prog 97 #[.pointer (some ⟨rb, 0, none⟩), .int .i64 6] w (ReadPost s src rb w) := by
  have HF := Lib.hid hF
  have HB := Lib.hid (TB.start h)
  clear h hF
  unfold ReadPost
  go_enter Tryd.func97, Tryd.ntmps97
  go_wp2_with fail
  refine (HF.out _ HB.out.rd).mono ?_
  rintro e w3 ⟨rfl, hr3, hg3⟩
  have H3 := Lib.hid (HB.out.more hg3 hr3)
  clear hr3 hg3 HF HB
  unfold qv
  have rc : ∀ o, w3.cell? ⟨w.heap.size, o, none⟩ = (#[.string ⟨#[]⟩, .string ⟨#[]⟩, .int .i64 0, .int .i64 0, .string ⟨#[]⟩, .slice none 0 0, .slice none 0 0, .slice none 0 0, .slice none 0 0, .slice none 0 0, .slice none 0 0, .slice none 0 0] : Array Value)[o]? := H3.out.res.cell
  have rf := H3.out.res.fr
  go_wp2_with fail
  refine bodyPost_ret (v := .agg #[.string ⟨#[118, 97, 108]⟩, .string ⟨#[]⟩, .int .i64 4, .int .i64 0, .string s, .slice none 0 0, .slice none 0 0, .slice none 0 0, .slice none 0 0, .slice none 0 0, .slice none 0 0, .slice none 0 0]) (by rw [results_cell rfl]; go_simp) rfl ?_
  refine ⟨rfl, ?_⟩
  with_reducible refine H3.out.fin ?_
  repeat' (with_reducible first | exact World.grownBy.refl _ _ | refine gb_set ?_ _ _)

set_option maxRecDepth 100000 in
set_option maxHeartbeats 3200000 in
theorem level_step (rb : Nat) (s src : ByteArray) (n : Nat) (hn : n ≤ 5) (hF : LevIH ((n : Int) + 1) s src rb) (w : World) (h : Rd w rb src 1 kStr ⟨#[]⟩ false) :
    Calls Tryd.prog 97 #[.pointer (some ⟨rb, 0, none⟩), .int .i64 n] w (ReadPost s src rb w) := by
  have HF := Lib.hid hF
  have HB := Lib.hid (TB.start h)
  have hn1 : ¬ ((5 : Int) < (n : Int)) := by omega
  have hn2 : (n : Int) ≤ 5 := by omega
  clear h hF hn
  unfold ReadPost
  go_enter Tryd.func97, Tryd.ntmps97
  go_wp2_with fail
  refine (HF.out _ HB.out.rd).mono ?_
  rintro e w3 ⟨rfl, hr3, hg3⟩
  have H3 := Lib.hid (HB.out.more hg3 hr3)
  have H3a := Lib.hid (fun o => H3.out.alloc o)
  clear hr3 hg3 HF HB
  unfold qv
  go_wp2_with fail
  go_loopg [] (0) (fun gk wr => gk = 0 ∧ wr = w3.alloc (.cells #[.string ⟨#[118, 97, 108]⟩, .string ⟨#[]⟩, .int .i64 4, .int .i64 0, .string s, .slice none 0 0, .slice none 0 0, .slice none 0 0, .slice none 0 0, .slice none 0 0, .slice none 0 0, .slice none 0 0] 35))
  case atStart => exact ⟨rfl, rfl⟩
  case round =>
    obtain ⟨rfl, rfl⟩ := hrel
    have HQ := Lib.hid (fun (w4 : World) hb => QB.new (w := w3) (cs := #[.string ⟨#[118, 97, 108]⟩, .string ⟨#[]⟩, .int .i64 4, .int .i64 0, .string s, .slice none 0 0, .slice none 0 0, .slice none 0 0, .slice none 0 0, .slice none 0 0, .slice none 0 0, .slice none 0 0]) (w' := w4) hb)
    have HX := Lib.hid (Below.refl (w3.alloc (.cells #[.string ⟨#[118, 97, 108]⟩, .string ⟨#[]⟩, .int .i64 4, .int .i64 0, .string s, .slice none 0 0, .slice none 0 0, .slice none 0 0, .slice none 0 0, .slice none 0 0, .slice none 0 0, .slice none 0 0] 35)).heap.size (w3.alloc (.cells #[.string ⟨#[118, 97, 108]⟩, .string ⟨#[]⟩, .int .i64 4, .int .i64 0, .string s, .slice none 0 0, .slice none 0 0, .slice none 0 0, .slice none 0 0, .slice none 0 0, .slice none 0 0, .slice none 0 0] 35)))
    have HW := Lib.hid (H3a.out (.cells #[.string ⟨#[118, 97, 108]⟩, .string ⟨#[]⟩, .int .i64 4, .int .i64 0, .string s, .slice none 0 0, .slice none 0 0, .slice none 0 0, .slice none 0 0, .slice none 0 0, .slice none 0 0, .slice none 0 0] 35))
    clear H3 H3a
    generalize hWW : w3.alloc (.cells #[.string ⟨#[118, 97, 108]⟩, .string ⟨#[]⟩, .int .i64 4, .int .i64 0, .string s, .slice none 0 0, .slice none 0 0, .slice none 0 0, .slice none 0 0, .slice none 0 0, .slice none 0 0, .slice none 0 0] 35) = W at *
    clear hWW
    have c4 := HW.out.rd.c4
    have c2 := HW.out.rd.c2
    go_wp2_with fail
    go_quiet (fail)
    have H6 := Lib.hid (HW.out.kept (⟨rfl, rfl, rfl, Nat.le_refl _, fun _ _ => rfl⟩ : Below W.heap.size W (W.drewN nq)))
    have HX6 := Lib.hid (HX.out.trans (⟨rfl, rfl, rfl, Nat.le_refl _, fun _ _ => rfl⟩ : Below W.heap.size W (W.drewN nq)))
    generalize W.drewN nq = w6 at *
    have qcell : ∀ o, w6.cell? ⟨w3.heap.size, o, none⟩ = (#[.string ⟨#[118, 97, 108]⟩, .string ⟨#[]⟩, .int .i64 4, .int .i64 0, .string s, .slice none 0 0, .slice none 0 0, .slice none 0 0, .slice none 0 0, .slice none 0 0, .slice none 0 0, .slice none 0 0] : Array Value)[o]? := (HQ.out w6 HX6.out).cell
    clear HX HW HQ HX6 c4 c2
    have rc : ∀ o, w6.cell? ⟨w.heap.size, o, none⟩ = (#[.string ⟨#[]⟩, .string ⟨#[]⟩, .int .i64 0, .int .i64 0, .string ⟨#[]⟩, .slice none 0 0, .slice none 0 0, .slice none 0 0, .slice none 0 0, .slice none 0 0, .slice none 0 0, .slice none 0 0] : Array Value)[o]? := H6.out.res.cell
    have rf := H6.out.res.fr
    go_wp2_with fail
    refine bodyPost_ret (v := .agg #[.string ⟨#[118, 97, 108]⟩, .string ⟨#[]⟩, .int .i64 4, .int .i64 0, .string s, .slice none 0 0, .slice none 0 0, .slice none 0 0, .slice none 0 0, .slice none 0 0, .slice none 0 0, .slice none 0 0]) (by rw [results_cell rfl]; go_simp) rfl ?_
    refine ⟨rfl, ?_⟩
    with_reducible refine H6.out.fin ?_
    repeat' (with_reducible first | exact World.grownBy.refl _ _ | refine gb_set ?_ _ _)

set_option maxRecDepth 100000 in
set_option maxHeartbeats 1600000 in
theorem alt_read (rb : Nat) (s src : ByteArray) (hF : LevIH 0 s src rb) (w : World) (h : Rd w rb src 1 kStr ⟨#[]⟩ false) :
    Calls Tryd.prog 85 #[.pointer (some ⟨rb, 0, none⟩)] w (ReadPost s src rb w) := by
  have HF := Lib.hid hF
  have HB := Lib.hid (TB.start h)
  clear h hF
  unfold ReadPost
  go_enter Tryd.func85, Tryd.ntmps85
  go_wp2_with fail
  refine (HF.out _ HB.out.rd).mono ?_
  rintro e w3 ⟨rfl, hr3, hg3⟩
  have H3 := Lib.hid (HB.out.more hg3 hr3)
  have H3a := Lib.hid (fun o => H3.out.alloc o)
  clear hr3 hg3 HF HB
  unfold qv
  go_wp2_with fail
  refine (is_end rb src ⟨#[]⟩ _ _ false _ (H3a.out _).rd).mono ?_
  rintro e w4 ⟨rfl, hb4⟩
  have H4 := Lib.hid ((H3a.out _).kept hb4)
  have qcell : ∀ o, w4.cell? ⟨w3.heap.size, o, none⟩ = (#[.string ⟨#[118, 97, 108]⟩, .string ⟨#[]⟩, .int .i64 4, .int .i64 0, .string s, .slice none 0 0, .slice none 0 0, .slice none 0 0, .slice none 0 0, .slice none 0 0, .slice none 0 0, .slice none 0 0] : Array Value)[o]? := (QB.new hb4).cell
  clear hb4 H3 H3a
  have rc : ∀ o, w4.cell? ⟨w.heap.size, o, none⟩ = (#[.string ⟨#[]⟩, .string ⟨#[]⟩, .int .i64 0, .int .i64 0, .string ⟨#[]⟩, .slice none 0 0, .slice none 0 0, .slice none 0 0, .slice none 0 0, .slice none 0 0, .slice none 0 0, .slice none 0 0] : Array Value)[o]? := H4.out.res.cell
  have rf := H4.out.res.fr
  go_wp2_with fail
  refine bodyPost_ret (v := .agg #[.string ⟨#[118, 97, 108]⟩, .string ⟨#[]⟩, .int .i64 4, .int .i64 0, .string s, .slice none 0 0, .slice none 0 0, .slice none 0 0, .slice none 0 0, .slice none 0 0, .slice none 0 0, .slice none 0 0]) (by rw [results_cell rfl]; go_simp) rfl ?_
  refine ⟨rfl, ?_⟩
  with_reducible refine H4.out.fin ?_
  repeat' (with_reducible first | exact World.grownBy.refl _ _ | refine gb_set ?_ _ _)

set_option maxRecDepth 100000 in
set_option maxHeartbeats 1600000 in
theorem pipe_read (rb : Nat) (s src : ByteArray) (hF : SubIH 67 s src rb) (w : World) (h : Rd w rb src 1 kStr ⟨#[]⟩ false) :
    Calls Tryd.prog 43 #[.pointer (some ⟨rb, 0, none⟩)] w (ReadPost s src rb w) := by
  have H := Lib.hid h
  have HF := Lib.hid hF
  have HB := Lib.hid (TB.start h)
  clear h hF
  unfold ReadPost
  have c4a : ∀ o, (w.alloc o).cell? ⟨rb, 4, none⟩ = some (.bool false) := fun o => (H.out.kept ((Below.refl _ _).alloc (Nat.le_refl _) o)).c4
  have c2a : ∀ o, (w.alloc o).cell? ⟨rb, 2, none⟩ = some (.string kStr) := fun o => (H.out.kept ((Below.refl _ _).alloc (Nat.le_refl _) o)).c2
  clear H
  go_enter Tryd.func43, Tryd.ntmps43
  go_wp2_with fail
  refine (HF.out _ HB.out.rd).mono ?_
  rintro e w3 ⟨rfl, hr3, hg3⟩
  have H3 := Lib.hid (HB.out.more hg3 hr3)
  have H3a := Lib.hid (fun o => H3.out.alloc o)
  clear hr3 hg3 HF HB
  unfold qv
  go_wp2_with fail
  refine (is_end rb src ⟨#[]⟩ _ _ false _ (H3a.out _).rd).mono ?_
  rintro e w4 ⟨rfl, hb4⟩
  have H4 := Lib.hid ((H3a.out _).kept hb4)
  have qcell : ∀ o, w4.cell? ⟨w3.heap.size, o, none⟩ = (#[.string ⟨#[118, 97, 108]⟩, .string ⟨#[]⟩, .int .i64 4, .int .i64 0, .string s, .slice none 0 0, .slice none 0 0, .slice none 0 0, .slice none 0 0, .slice none 0 0, .slice none 0 0, .slice none 0 0] : Array Value)[o]? := (QB.new hb4).cell
  clear hb4 H3 H3a
  have rc : ∀ o, w4.cell? ⟨w.heap.size, o, none⟩ = (#[.string ⟨#[]⟩, .string ⟨#[]⟩, .int .i64 0, .int .i64 0, .string ⟨#[]⟩, .slice none 0 0, .slice none 0 0, .slice none 0 0, .slice none 0 0, .slice none 0 0, .slice none 0 0, .slice none 0 0] : Array Value)[o]? := H4.out.res.cell
  have rf := H4.out.res.fr
  go_wp2_with fail
  refine bodyPost_ret (v := .agg #[.string ⟨#[118, 97, 108]⟩, .string ⟨#[]⟩, .int .i64 4, .int .i64 0, .string s, .slice none 0 0, .slice none 0 0, .slice none 0 0, .slice none 0 0, .slice none 0 0, .slice none 0 0, .slice none 0 0]) (by rw [results_cell rfl]; go_simp) rfl ?_
  refine ⟨rfl, ?_⟩
  with_reducible refine H4.out.fin ?_
  repeat' (with_reducible first | exact World.grownBy.refl _ _ | refine gb_set ?_ _ _)

set_option maxRecDepth 100000 in
set_option maxHeartbeats 1600000 in
theorem comma_read (rb : Nat) (s src : ByteArray) (hF : SubIH 85 s src rb) (w : World) (h : Rd w rb src 1 kStr ⟨#[]⟩ false) :
    Calls Tryd.prog 67 #[.pointer (some ⟨rb, 0, none⟩)] w (ReadPost s src rb w) := by
  have HF := Lib.hid hF
  have HB := Lib.hid (TB.start h)
  clear h hF
  unfold ReadPost
  go_enter Tryd.func67, Tryd.ntmps67
  go_wp2_with fail
  refine (HF.out _ HB.out.rd).mono ?_
  rintro e w3 ⟨rfl, hr3, hg3⟩
  have H3 := Lib.hid (HB.out.more hg3 hr3)
  have H3a := Lib.hid (fun o => H3.out.alloc o)
  clear hr3 hg3 HF HB
  unfold qv
  go_wp2_with fail
  go_loopg [] (0) (fun gk wr => gk = 0 ∧ wr = w3.alloc (.cells #[.string ⟨#[118, 97, 108]⟩, .string ⟨#[]⟩, .int .i64 4, .int .i64 0, .string s, .slice none 0 0, .slice none 0 0, .slice none 0 0, .slice none 0 0, .slice none 0 0, .slice none 0 0, .slice none 0 0] 35))
  case atStart => exact ⟨rfl, rfl⟩
  case round =>
    obtain ⟨rfl, rfl⟩ := hrel
    go_wp2_with fail
    refine (is_end rb src ⟨#[]⟩ _ _ false _ (H3a.out _).rd).mono ?_
    rintro e w4 ⟨rfl, hb4⟩
    have H4 := Lib.hid ((H3a.out _).kept hb4)
    have qcell : ∀ o, w4.cell? ⟨w3.heap.size, o, none⟩ = (#[.string ⟨#[118, 97, 108]⟩, .string ⟨#[]⟩, .int .i64 4, .int .i64 0, .string s, .slice none 0 0, .slice none 0 0, .slice none 0 0, .slice none 0 0, .slice none 0 0, .slice none 0 0, .slice none 0 0] : Array Value)[o]? := (QB.new hb4).cell
    clear hb4 H3 H3a
    have rc : ∀ o, w4.cell? ⟨w.heap.size, o, none⟩ = (#[.string ⟨#[]⟩, .string ⟨#[]⟩, .int .i64 0, .int .i64 0, .string ⟨#[]⟩, .slice none 0 0, .slice none 0 0, .slice none 0 0, .slice none 0 0, .slice none 0 0, .slice none 0 0, .slice none 0 0] : Array Value)[o]? := H4.out.res.cell
    have rf := H4.out.res.fr
    go_wp2_with fail
    refine bodyPost_ret (v := .agg #[.string ⟨#[118, 97, 108]⟩, .string ⟨#[]⟩, .int .i64 4, .int .i64 0, .string s, .slice none 0 0, .slice none 0 0, .slice none 0 0, .slice none 0 0, .slice none 0 0, .slice none 0 0, .slice none 0 0]) (by rw [results_cell rfl]; go_simp) rfl ?_
    refine ⟨rfl, ?_⟩
    with_reducible refine H4.out.fin ?_
    repeat' (with_reducible first | exact World.grownBy.refl _ _ | refine gb_set ?_ _ _)


theorem level_any (rb : Nat) (s src : ByteArray) (hU : SubIH 105 s src rb) : ∀ d n : Nat, n + d = 6 → LevIH (n : Int) s src rb
  | 0, n, e => by obtain rfl : n = 6 := by omega
                  exact fun w h => level_top rb s src hU w h
  | d + 1, n, e => fun w h => level_step rb s src n (by omega) (by have := level_any rb s src hU d (n + 1) (by omega); rwa [show ((n + 1 : Nat) : Int) = (n : Int) + 1 by omega] at this) w h
theorem pipe_any (rb : Nat) (s src : ByteArray) (hE : IsEnc s src) (hs : src.size ≤ 140737488355328) : SubIH 43 s src rb := by
  have h1 : SubIH 126 s src rb := fun w h => first_read rb s src hE hs w h
  have h2 : SubIH 116 s src rb := fun w h => term_read rb s src h1 w h
  have h3 : SubIH 105 s src rb := fun w h => unary_read rb s src h2 w h
  have h4 : LevIH 0 s src rb := level_any rb s src h3 6 0 rfl
  have h5 : SubIH 85 s src rb := fun w h => alt_read rb s src h4 w h
  have h6 : SubIH 67 s src rb := fun w h => comma_read rb s src h5 w h
  exact fun w h => pipe_read rb s src h6 w h

end Go.Proofs.YtjpcdbopioblaaaDoor
