/- The reference's looker: 'want', 'part', 'str' walked. -/
import Derived.Test.YtjpcdbopioblaaaDoorExt
import Derived.BigQuiet
import Derived.Deep.QuietTactic
import Derived.Deep.DeepCutAuto
import Derived.StillTailTactics
import Derived.Deep.CutBlock
import Derived.Deep.LoopGhost
import Derived.Lib.Hide
import Derived.Lib.ValidU
namespace Go.Proofs.YtjpcdbopioblaaaDoor
open Go.RowKit

/-- A step of a region that is walked in the text's order: the guard by the kernel. -/
theorem still_want {P : Program} {ops : Array Oper} {w : World} {Q : Act → Prop} {a : Act} {o : Oper} {rest : List Oper} (hw : Region.wanted o (yielded ops a.tmps) = true)
    (h : ∀ K : Act → Prop, (∀ a, wpStill P ops w Q rest a → K a) → o.still P a w K) : wpStill P ops w Q (o :: rest) a :=
  wpStill_step fun K hK => by rw [if_pos hw]; exact h K hK
theorem still_skip {P : Program} {ops : Array Oper} {w : World} {Q : Act → Prop} {a : Act} {o : Oper} {rest : List Oper} (hw : Region.wanted o (yielded ops a.tmps) = false)
    (h : wpStill P ops w Q rest (a.put o.dst undef)) : wpStill P ops w Q (o :: rest) a :=
  wpStill_step fun K hK => by rw [if_neg (by rw [hw]; exact Bool.false_ne_true)]; exact hK _ h

/-- The looker in block L. -/
def Lk (w : World) (L : Nat) (p b : Int) (bad : Bool) : Prop := w.heap[L]? = some (.cells #[.int .i64 p, .int .i64 b, .bool bad] 61 (0, 0))

theorem Lk.c0 {w : World} {L : Nat} {p b : Int} {bad : Bool} (h : Lk w L p b bad) : w.cell? ⟨L, 0, none⟩ = some (.int .i64 p) := by unfold Lk at h; simp [World.cell?, h]
theorem Lk.c1 {w : World} {L : Nat} {p b : Int} {bad : Bool} (h : Lk w L p b bad) : w.cell? ⟨L, 1, none⟩ = some (.int .i64 b) := by unfold Lk at h; simp [World.cell?, h]
theorem Lk.c2 {w : World} {L : Nat} {p b : Int} {bad : Bool} (h : Lk w L p b bad) : w.cell? ⟨L, 2, none⟩ = some (.bool bad) := by unfold Lk at h; simp [World.cell?, h]
theorem Lk.fr {w : World} {L : Nat} {p b : Int} {bad : Bool} (h : Lk w L p b bad) (o : Nat) : w.frozen? ⟨L, o, none⟩ = false := by unfold Lk at h; simp [World.frozen?, h]
theorem Lk.lt {w : World} {L : Nat} {p b : Int} {bad : Bool} (h : Lk w L p b bad) : L < w.heap.size := lt_of_block h
theorem Lk.set {w : World} {L : Nat} {p b : Int} {bad : Bool} (h : Lk w L p b bad) (i : Nat) (v : Value) :
    (w.setCell ⟨L, i, none⟩ v).heap[L]? = some (.cells (#[.int .i64 p, .int .i64 b, .bool bad].setIfInBounds i v) 61 (0, 0)) := by
  have hlt := h.lt
  unfold Lk at h
  have h' : w.heap[L] = .cells #[.int .i64 p, .int .i64 b, .bool bad] 61 (0, 0) := by simpa [Array.getElem?_eq_getElem hlt] using h
  show (w.heap.modify L _)[L]? = _
  rw [Array.getElem?_eq_getElem (by simpa using hlt), Array.getElem_modify_self, h']
  rfl
theorem Lk.set0 {w : World} {L : Nat} {p b p' : Int} {bad : Bool} (h : Lk w L p b bad) : Lk (w.setCell ⟨L, 0, none⟩ (.int .i64 p')) L p' b bad := by
  have := h.set 0 (.int .i64 p'); unfold Lk; simpa using this
theorem Lk.set1 {w : World} {L : Nat} {p b b' : Int} {bad : Bool} (h : Lk w L p b bad) : Lk (w.setCell ⟨L, 1, none⟩ (.int .i64 b')) L p b' bad := by
  have := h.set 1 (.int .i64 b'); unfold Lk; simpa using this
theorem Lk.set2 {w : World} {L : Nat} {p b : Int} {bad bad' : Bool} (h : Lk w L p b bad) : Lk (w.setCell ⟨L, 2, none⟩ (.bool bad')) L p b bad' := by
  have := h.set 2 (.bool bad'); unfold Lk; simpa using this
theorem Lk.kept {w w' : World} {L : Nat} {p b : Int} {bad : Bool} (h : Lk w L p b bad) (hb : Below w.heap.size w w') : Lk w' L p b bad := (hb.block L h.lt).trans h

set_option maxHeartbeats 400000 in
theorem want_raw (L : Nat) (bad ok : Bool) (w : World) (hc : w.cell? ⟨L, 2, none⟩ = some (.bool bad)) (hf : w.frozen? ⟨L, 2, none⟩ = false) :
    Calls Tryd.prog 58 #[.pointer (some ⟨L, 0, none⟩), .bool ok] w fun e w' => e = .returned (.tuple #[]) ∧ w.setCell ⟨L, 2, none⟩ (.bool (bad || !ok)) = w' := by
  go_enter Tryd.func58, Tryd.ntmps58
  go_wp2
  all_goals go_end0
  all_goals exact ⟨rfl, by simp [*]⟩

/-- What 'want' leaves. -/
theorem want_any (L : Nat) (p b : Int) (bad ok : Bool) (w : World) (hl : Lk w L p b bad) :
    Calls Tryd.prog 58 #[.pointer (some ⟨L, 0, none⟩), .bool ok] w fun e w' => e = .returned (.tuple #[]) ∧ Lk w' L p b (bad || !ok) ∧ w.grownBy w' (some L) :=
  (want_raw L bad ok w hl.c2 (hl.fr 2)).mono fun _ _ ⟨he, hw⟩ => ⟨he, hw ▸ hl.set2, hw ▸ gb_set (World.grownBy.refl w _) 2 _⟩

/-- What 'part' leaves. -/
def PartPost (L : Nat) (p b deep : Int) (bad : Bool) (w : World) (e : Ending) (w' : World) : Prop :=
  ∃ bad', e = .returned (.bool !bad') ∧ Lk w' L (p + 1) b bad' ∧ w.grownBy w' (some L) ∧ (bad' = false → bad = false ∧ p + 1 ≤ 400 ∧ b ≤ 2000 ∧ deep ≤ 60)
set_option maxHeartbeats 400000 in
theorem part_any (L : Nat) (p b deep : Int) (bad : Bool) (w : World) (hl : Lk w L p b bad) (hp : 0 ≤ p) (hp' : p ≤ 1000) :
    Calls Tryd.prog 57 #[.pointer (some ⟨L, 0, none⟩), .int .i64 deep] w (PartPost L p b deep bad w) := by
  have hc0 := hl.c0
  have hf0 := hl.fr 0
  have hl1 := hl.set0 (p' := p + 1)
  have hc1 := hl1.c0
  have hc2 := hl1.c1
  have H := Lib.hid hl1
  have HG : Hid (w.grownBy (w.setCell ⟨L, 0, none⟩ (.int .i64 (p + 1))) (some L)) := gb_set (World.grownBy.refl w _) 0 _
  clear hl1
  go_enter Tryd.func57, Tryd.ntmps57
  go_wp2_with (go_at_call 58; refine (want_any L (p + 1) b bad _ _ H.out).mono ?_; rintro e w' ⟨rfl, hl2, hg⟩; have hc3 := hl2.c2)
  all_goals go_ret
  all_goals exact ⟨_, by simp, hl2, gb_trans HG.out hg, fun h => by simp at h ⊢ <;> simp_all⟩

/-- What 'str' leaves. -/
def StrPost (L : Nat) (p b : Int) (bad : Bool) (s : ByteArray) (w : World) (e : Ending) (w' : World) : Prop :=
  ∃ bad', e = .returned (.tuple #[]) ∧ Lk w' L p (b + s.size) bad' ∧ w.grownBy w' (some L) ∧ (bad' = false → bad = false ∧ b + s.size ≤ 2000 ∧ Lib.validD s.data.toList = true)
set_option maxHeartbeats 400000 in
theorem str_any (L : Nat) (p b : Int) (bad : Bool) (s : ByteArray) (W w : World) (hB : Below W.heap.size W w) (hl : Lk w L p b bad) (hT : Tabs W) (hL : W.heap.size ≤ L) (hs : s.size ≤ reachN) (hb : 0 ≤ b) (hb' : b ≤ 140737488361232) :
    Calls Tryd.prog 59 #[.pointer (some ⟨L, 0, none⟩), .string s] w (StrPost L p b bad s w) := by
  have hc1 := hl.c1
  have hf1 := hl.fr 1
  have hl1 := hl.set1 (b' := b + s.size)
  have hc2 := hl1.c1
  have H := Lib.hid hl1
  have HG : Hid (w.grownBy (w.setCell ⟨L, 1, none⟩ (.int .i64 (b + s.size))) (some L)) := gb_set (World.grownBy.refl w _) 1 _
  have HT := Lib.hid (hT.below (below_gb hB HG.out hB.size hL))
  unfold reachN at hs
  clear hl1 hT
  go_enter Tryd.func59, Tryd.ntmps59
  go_wp2_with first
    | (go_at_call 14; refine (valid_c s _ (by omega) HT.out).mono ?_; rintro e w1 ⟨rfl, hb1⟩; have H1 := Lib.hid (H.out.kept hb1); have HG1 := Lib.hid (gb_below HG.out hb1); clear hb1)
    | (go_at_call 58; (first | refine (want_any L p (b + s.size) bad _ _ H1.out).mono ?_ | refine (want_any L p (b + s.size) bad _ _ H.out).mono ?_); rintro e w' ⟨rfl, hl2, hg⟩)
  all_goals go_end0
  · exact ⟨_, rfl, hl2, gb_trans HG1.out hg, fun h => by simp at h ⊢ <;> simp_all⟩
  · exact ⟨_, rfl, hl2, gb_trans HG.out hg, fun h => by simp at h ⊢ <;> simp_all⟩
end Go.Proofs.YtjpcdbopioblaaaDoor
