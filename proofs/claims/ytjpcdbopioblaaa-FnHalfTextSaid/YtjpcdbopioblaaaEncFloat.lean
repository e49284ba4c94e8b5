/- The JSON encoder's encodeFloat64 walked at a half. -/
import Derived.Test.YtjpcdbopioblaaaEncW
import Derived.Test.YtjpcdbopioblaaaFmtFloat2
import Derived.Lib.JoinLaws
import Derived.Deep.AppendSrc
import Derived.Laws.FloatArith
namespace Go.Proofs.Ytjpcdbopioblaaa
open Go.RowKit

theorem frombits_run (B : Nat) (W : World) : (callFunc 13 #[.int .u64 B]).run Try.prog W = .ok (.value (.float .f64 B)) W := by
  rw [run_callFunc_extern Try.func13 (by kernel_rfl) (by kernel_rfl) (by kernel_rfl) (e := Extern.MathFloatBits.float64frombits) (by kernel_rfl)]
  rfl
theorem isNaN_any (F : Nat) (w : World) (h : FloatKind.f64.format.order F F = some .eq) : Calls Try.prog 10 #[.float .f64 F] w fun e w' => e = .returned (.bool false) ∧ w = w' := by
  go_enter Try.func10, Try.ntmps10
  go_wp2_with fail
  go_ret
  exact ⟨rfl, rfl⟩
theorem abs_any (F A : Nat) (w : World) (h : bits .andNot .u64 (F : Int) 9223372036854775808 = (A : Int)) : Calls Try.prog 11 #[.float .f64 F] w fun e w' => e = .returned (.float .f64 A) ∧ w = w' := by
  have h1 := fun W => f64bits_run F W
  have h2 := fun W => frombits_run A W
  go_enter Try.func11, Try.ntmps11
  go_wp2_with fail
  go_ret
  exact ⟨rfl, rfl⟩
/-- What is stored in a row of cells. -/
theorem setCells_row {T : TypeId} {b : Nat} : ∀ (vs : List Value) (o : Nat) (W : World) (cs : Array Value), W.heap[b]? = some (.cells cs T (0, 0)) → o + vs.length ≤ cs.size →
    ∃ cs' : Array Value, (W.setCells b o vs).heap[b]? = some (.cells cs' T (0, 0)) ∧ cs'.size = cs.size ∧ (∀ i, i < o → cs'[i]? = cs[i]?) ∧ ∀ j (h : j < vs.length), cs'[o + j]? = some vs[j]
  | [], o, W, cs, h, _ => ⟨cs, h, rfl, fun _ _ => rfl, fun j hj => absurd hj (by simp)⟩
  | v :: r, o, W, cs, h, hs => by
    simp only [List.length_cons] at hs
    have h1 := Lib.heap_setCell_same h (i := o) v
    obtain ⟨cs', h2, h3, h4, h5⟩ := setCells_row r (o + 1) (W.setCell ⟨b, o, none⟩ v) (cs.setIfInBounds o v) (by simpa using h1) (by simp; omega)
    refine ⟨cs', h2, by simpa using h3, fun i hi => ?_, fun j hj => ?_⟩
    · rw [h4 i (by omega), Array.getElem?_setIfInBounds_ne (by omega)]
    · cases j with
      | zero =>
        rw [Nat.add_zero, h4 o (by omega)]
        simp [Array.getElem?_setIfInBounds]
        omega
      | succ j =>
        have := h5 j (by simpa using hj)
        rw [show o + (j + 1) = o + 1 + j by omega, this]
        rfl
theorem setCells_gb {b : Nat} : ∀ (vs : List Value) (o : Nat) (W : World), W.grownBy (W.setCells b o vs) (some b)
  | [], _, W => World.grownBy.refl W _
  | v :: r, o, W => gb_trans (gb_set (World.grownBy.refl W (some b)) o v) (setCells_gb r (o + 1) _)
/-- The text of a half as bytes. -/
def numBytes (h : Int) : List UInt8 := (numTxt (decide (h < 0)) h.natAbs).map UInt8.ofNat
theorem numBytes_len (h : Int) (h1 : -9007199254740992 < h) (h2 : h < 9007199254740992) : (numBytes h).length ≤ 24 := by
  unfold numBytes numTxt
  have := dig_len 19 (h.natAbs / 2) (by omega)
  rw [List.length_map, List.length_append, List.length_append, List.length_map]
  have e1 : (if decide (h < 0) = true then [45] else ([] : List Nat)).length ≤ 1 := by split <;> simp
  have e2 : (if h.natAbs % 2 = 1 then [46, 53] else ([] : List Nat)).length ≤ 2 := by split <;> simp
  omega
/-- What 'AppendFloat' onto an encoder's buffer leaves. -/
def AppPost (eb : Nat) (t : List UInt8) (cs : Array Value) (w : World) (e : Ending) (w' : World) : Prop := ∃ cs' : Array Value, e = .returned (.slice (some ⟨eb, 1, none⟩) t.length 64) ∧ w'.heap[eb]? = some (.cells cs' 35 (0, 0)) ∧ cs'.size = 65 ∧ cs'[0]? = cs[0]? ∧ (∀ j (h : j < t.length), cs'[1 + j]? = some (.int .u8 (t[j].toNat : Nat))) ∧ w.grownBy w' (some eb)

theorem app_fin {eb : Nat} {t : ByteArray} {cs : Array Value} {w w1 : World} (hb : Below w.heap.size w w1) (he : w.heap[eb]? = some (.cells cs 35 (0, 0))) (hz : cs.size = 65) (ht : t.size ≤ 64) (n : Nat) (hn : n = t.size) :
    AppPost eb t.data.toList cs w (.returned (.slice (some ⟨eb, 1, none⟩) n 64)) (w1.setCells eb 1 (byteCells t)) := by
  subst hn
  have he1 := (hb.block eb (Array.getElem?_eq_some_iff.1 he).1).trans he
  have hl : (byteCells t).length = t.data.toList.length := by rw [byteCells_length, Array.length_toList]; rfl
  have hl2 : t.data.toList.length = t.size := Array.length_toList
  obtain ⟨cs', h1, h2, h3, h4⟩ := setCells_row (byteCells t) 1 w1 cs he1 (by rw [hl, hl2, hz]; omega)
  refine ⟨cs', by rw [hl2], h1, h2.trans hz, h3 0 (by decide), fun j hj => ?_, gb_trans ⟨hb.os, hb.tape, hb.output, hb.size, fun k hk _ => hb.block k hk⟩ (setCells_gb _ _ _)⟩
  have := h4 j (by rw [hl]; exact hj)
  rw [this]
  simp [byteCells]

set_option maxRecDepth 100000 in
set_option maxHeartbeats 1600000 in
theorem appendFloat_any (h : Int) (eb : Nat) (cs : Array Value) (w : World) (h1 : -9007199254740992 < h) (h2 : h < 9007199254740992) (he : w.heap[eb]? = some (.cells cs 35 (0, 0))) (hz : cs.size = 65) :
    Calls Try.prog 12 #[.slice (some ⟨eb, 1, none⟩) 0 64, .float .f64 (halfBits h), .int .u8 102, .int .i64 (-1), .int .i64 64] w (AppPost eb (numBytes h) cs w) := by
  have HF := Lib.hid (fun wx => formatFloat_any h wx h1 h2)
  have hlen := numBytes_len h h1 h2
  have hsz : (textB (numTxt (decide (h < 0)) h.natAbs)).size ≤ 64 := by
    rw [textB_size]
    unfold numBytes at hlen
    simp at hlen
    omega
  have hdt : (textB (numTxt (decide (h < 0)) h.natAbs)).data.toList = numBytes h := rfl
  have HE := Lib.hid (And.intro he hz)
  rw [← hdt]
  generalize textB (numTxt (decide (h < 0)) h.natAbs) = tx at *
  generalize halfBits h = F at *
  clear he hz hdt hlen
  obtain ⟨ti, hti, hz0, hz1, hz2⟩ := byteInfo
  go_enter Try.func12, Try.ntmps12
  go_wp2_with fail
  refine (HF.out _).mono ?_
  rintro e w1 ⟨rfl, hb⟩
  have HB := Lib.hid hb
  have he1 := (hb.block eb (Array.getElem?_eq_some_iff.1 HE.out.1).1).trans HE.out.1
  have hcl : (byteCells tx).length = tx.size := byteCells_length tx
  have HC : Hid (∀ j, j < (byteCells tx).length → (w1.cell? ⟨eb, 1 + 0 * ti.size + j, none⟩).isSome = true) := Lib.hid fun j hj => by
    have h3 : 1 + 0 * ti.size + j < cs.size := by rw [HE.out.2]; omega
    simp only [World.cell?, he1]
    rw [Array.getElem?_eq_getElem h3]
    rfl
  have HFr : Hid (∀ j, j < (byteCells tx).length → w1.frozen? ⟨eb, 1 + 0 * ti.size + j, none⟩ = false) := Lib.hid fun j hj => by
    simp [World.frozen?, he1]
  have HSR : Hid (∀ wx, Src Try.prog ti.size 9 (.string tx) tx.size (byteCells tx) wx) := Lib.hid fun wx => by rw [hz1]; exact Src.ofString wx Try.underlying9 tx
  clear hb he1
  go_wp2_with (at_builtin; refine wpList_append_room_src _ rfl _ _ 25 9 rfl 5 ti Try.underlying25 hti eb 1 0 64 rfl (.string tx) rfl tx.size (byteCells tx) (HSR.out _) (by omega) HC.out HFr.out ?_)
  go_ret
  have e1 : 1 + 0 * ti.size = 1 := by omega
  have e2 : 0 + tx.size = tx.size := by omega
  first
    | (simp only [e1, e2]; exact app_fin HB.out HE.out.1 HE.out.2 hsz _ rfl)
    | (simp only [Nat.zero_mul, Nat.add_zero, Nat.zero_add]; exact app_fin HB.out HE.out.1 HE.out.2 hsz _ rfl)
    | exact app_fin HB.out HE.out.1 HE.out.2 hsz _ rfl
end Go.Proofs.Ytjpcdbopioblaaa
