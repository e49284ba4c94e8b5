/- The reference's reader of queries: its small functions walked, where a string alone is read. -/
import Derived.Test.YtjpcdbopioblaaaDoorQuotePlain
import Derived.Test.YtjpcdbopioblaaaDoorLook
import Derived.StillTailTactics
import Derived.Deep.QuietTactic
namespace Go.Proofs.YtjpcdbopioblaaaDoor
open Go.RowKit

/-- The reader in block rb: the text, the place, the token's kind and text, whether it is bad. -/
def Rd (w : World) (rb : Nat) (s : ByteArray) (p : Int) (k t : ByteArray) (bad : Bool) : Prop := w.heap[rb]? = some (.cells #[.string s, .int .i64 p, .string k, .string t, .bool bad] 82 (0, 0))

section
variable {w w' : World} {rb : Nat} {s k t : ByteArray} {p : Int} {bad : Bool}
theorem Rd.c0 (h : Rd w rb s p k t bad) : w.cell? ⟨rb, 0, none⟩ = some (.string s) := by unfold Rd at h; simp [World.cell?, h]
theorem Rd.c1 (h : Rd w rb s p k t bad) : w.cell? ⟨rb, 1, none⟩ = some (.int .i64 p) := by unfold Rd at h; simp [World.cell?, h]
theorem Rd.c2 (h : Rd w rb s p k t bad) : w.cell? ⟨rb, 2, none⟩ = some (.string k) := by unfold Rd at h; simp [World.cell?, h]
theorem Rd.c3 (h : Rd w rb s p k t bad) : w.cell? ⟨rb, 3, none⟩ = some (.string t) := by unfold Rd at h; simp [World.cell?, h]
theorem Rd.c4 (h : Rd w rb s p k t bad) : w.cell? ⟨rb, 4, none⟩ = some (.bool bad) := by unfold Rd at h; simp [World.cell?, h]
theorem Rd.fr (h : Rd w rb s p k t bad) (o : Nat) : w.frozen? ⟨rb, o, none⟩ = false := by unfold Rd at h; simp [World.frozen?, h]
theorem Rd.lt (h : Rd w rb s p k t bad) : rb < w.heap.size := lt_of_block h
theorem Rd.set (h : Rd w rb s p k t bad) (i : Nat) (v : Value) :
    (w.setCell ⟨rb, i, none⟩ v).heap[rb]? = some (.cells (#[.string s, .int .i64 p, .string k, .string t, .bool bad].setIfInBounds i v) 82 (0, 0)) := by
  have hlt := h.lt
  unfold Rd at h
  have h' : w.heap[rb] = .cells #[.string s, .int .i64 p, .string k, .string t, .bool bad] 82 (0, 0) := by simpa [Array.getElem?_eq_getElem hlt] using h
  show (w.heap.modify rb _)[rb]? = _
  rw [Array.getElem?_eq_getElem (by simpa using hlt), Array.getElem_modify_self, h']
  rfl
theorem Rd.set1 (h : Rd w rb s p k t bad) (p' : Int) : Rd (w.setCell ⟨rb, 1, none⟩ (.int .i64 p')) rb s p' k t bad := by
  have := h.set 1 (.int .i64 p'); unfold Rd; simpa using this
theorem Rd.set2 (h : Rd w rb s p k t bad) (k' : ByteArray) : Rd (w.setCell ⟨rb, 2, none⟩ (.string k')) rb s p k' t bad := by
  have := h.set 2 (.string k'); unfold Rd; simpa using this
theorem Rd.set3 (h : Rd w rb s p k t bad) (t' : ByteArray) : Rd (w.setCell ⟨rb, 3, none⟩ (.string t')) rb s p k t' bad := by
  have := h.set 3 (.string t'); unfold Rd; simpa using this
theorem Rd.kept (h : Rd w rb s p k t bad) (hb : Below w.heap.size w w') : Rd w' rb s p k t bad := (hb.block rb h.lt).trans h
theorem Rd.drew (h : Rd w rb s p k t bad) : Rd w.drew rb s p k t bad := h
end
theorem gb_drewN {a b : World} {row : Option Nat} (h : a.grownBy b row) (n : Nat) : a.grownBy (b.drewN n) row := ⟨h.os, h.tape, h.output, h.size, h.block⟩
theorem gb_drew {a b : World} {row : Option Nat} (h : a.grownBy b row) : a.grownBy b.drew row := gb_below h (Below.refl _ b).drew

/-- The token. -/
abbrev kEnd : ByteArray := ⟨#[101, 110, 100]⟩
abbrev kStr : ByteArray := ⟨#[115, 116, 114]⟩

def LetterPost (c : UInt8) (w : World) (e : Ending) (w' : World) : Prop := ∃ b, e = .returned (.bool b) ∧ w' = w ∧ (c.toNat = 34 → b = false)
set_option maxRecDepth 100000 in
set_option maxHeartbeats 800000 in
theorem letter_any (c : UInt8) (first : Bool) (w : World) : Calls Tryd.prog 81 #[.int .u8 c.toNat, .bool first] w (LetterPost c w) := by
  go_enter Tryd.func81, Tryd.ntmps81
  go_wp2
  all_goals go_ret
  all_goals exact ⟨_, rfl, rfl, fun h => by simp at * <;> omega⟩

set_option maxRecDepth 100000 in
theorem take_any (rb : Nat) (s k t k' t' : ByteArray) (p n : Int) (bad : Bool) (w : World) (h : Rd w rb s p k t bad) (hp : 0 ≤ p ∧ p ≤ 1407374883553280) (hn : 0 ≤ n ∧ n ≤ 1407374883553280) :
    Calls Tryd.prog 62 #[.pointer (some ⟨rb, 0, none⟩), .string k', .string t', .int .i64 n] w fun e w' => e = .returned (.tuple #[]) ∧ Rd w' rb s (p + n) k' t' bad ∧ w.grownBy w' (some rb) := by
  have h2 := h.set2 k'
  have h3 := h2.set3 t'
  have h1 := h3.set1 (p + n)
  have c1 := h3.c1
  have f2 := h.fr 2
  have f3 := h2.fr 3
  have c2 := h.c2
  have c3 := h2.c3
  have f1 := h3.fr 1
  have H := Lib.hid h1
  have HG := Lib.hid (gb_set (gb_set (gb_set (World.grownBy.refl w (some rb)) 2 (.string k')) 3 (.string t')) 1 (.int .i64 (p + n)))
  clear h1 h2 h3
  go_enter Tryd.func62, Tryd.ntmps62
  go_wp2_with fail
  go_end0
  exact ⟨rfl, H.out, HG.out⟩

set_option maxRecDepth 100000 in
theorem is_end (rb : Nat) (s t x : ByteArray) (p : Int) (bad : Bool) (w : World) (h : Rd w rb s p kEnd t bad) :
    Calls Tryd.prog 68 #[.pointer (some ⟨rb, 0, none⟩), .string x] w fun e w' => e = .returned (.bool false) ∧ Below w.heap.size w w' := by
  have c2 := h.c2
  go_enter Tryd.func68, Tryd.ntmps68
  go_wp2_with fail
  go_ret
  exact ⟨rfl, Below.refl _ _⟩

set_option maxRecDepth 100000 in
/-- At the text's end. -/
theorem move_end (rb : Nat) (s k t : ByteArray) (bad : Bool) (w : World) (h : Rd w rb s s.size k t bad) (hs : s.size ≤ 140737488355328) :
    Calls Tryd.prog 42 #[.pointer (some ⟨rb, 0, none⟩)] w fun e w' => e = .returned (.tuple #[]) ∧ Rd w' rb s s.size kEnd ⟨#[]⟩ bad ∧ w.grownBy w' (some rb) := by
  have c0 := h.c0
  have c1 := h.c1
  have HG := Lib.hid (World.grownBy.refl w (some rb))
  have H := Lib.hid h
  clear h
  have hn : ¬ ((s.size : Int) < (s.size : Int)) := by omega
  have hn' : decide ((s.size : Int) < (s.size : Int)) = false := by simp
  go_enter Tryd.func42, Tryd.ntmps42
  go_wp2_with fail
  go_loopg [] (0) (fun gk wr => gk = 0 ∧ wr = w)
  case atStart => exact ⟨rfl, rfl⟩
  case round =>
    obtain ⟨rfl, rfl⟩ := hrel
    go_wp2_with fail
    go_quiet (fail)
    have H1 : Hid (Rd (wr.drewN nq) rb s s.size k t bad) := H
    have HG1 : Hid (wr.grownBy (wr.drewN nq) (some rb)) := Lib.hid (gb_drewN HG.out nq)
    have d0 := H1.out.c0
    have d1 := H1.out.c1
    clear c0 c1 H HG
    generalize wr.drewN nq = w1 at *
    go_wp2_with fail
    go_quiet (fail)
    have H2 : Hid (Rd (w1.drewN nq) rb s s.size k t bad) := H1
    have HG2 : Hid (wr.grownBy (w1.drewN nq) (some rb)) := Lib.hid (gb_drewN HG1.out nq)
    have d2 := H2.out.c2
    have f2 := H2.out.fr 2
    have d3 := (H2.out.set2 kEnd).c3
    have f3 := (H2.out.set2 kEnd).fr 3
    clear d0 d1 H1 HG1
    generalize w1.drewN nq = w2 at *
    go_wp2_with fail
    refine bodyPost_ret (v := .tuple #[]) (results_none rfl _ _ _) rfl ?_
    exact ⟨rfl, (H2.out.set2 _).set3 _, gb_set (gb_set HG2.out _ _) _ _⟩
end Go.Proofs.YtjpcdbopioblaaaDoor
