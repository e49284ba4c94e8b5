/- Strings as values of the reference: made, compared. -/
import Derived.Test.YtjpcdbopioblaaaGreatDoorFromGo0
namespace Go.Proofs.YtjpcdbopioblaaaGreatDoor
open Go.RowKit

/-- A string's tree. -/
def strT (t : ByteArray) : RV := .mk 4 0 t [] [] []

set_option maxRecDepth 100000 in
theorem str_c (s : ByteArray) (w : World) :
    Calls Tryz.prog 22 #[.string s] w fun e w' => e = .returned (.agg #[.int .i64 4, .int .i64 0, .string s, .slice none 0 0, .slice none 0 0, .slice none 0 0]) ∧ Below w.heap.size w w' := by
  have HB := Lib.hid (fun o => (Below.refl w.heap.size w).alloc (Nat.le_refl _) o)
  go_enter Tryz.func22, Tryz.ntmps22
  go_wp2_with fail
  refine bodyPost_ret (v := .agg #[.int .i64 4, .int .i64 0, .string s, .slice none 0 0, .slice none 0 0, .slice none 0 0]) (by rw [results_cell rfl]; go_simp) rfl ?_
  exact ⟨rfl, HB.out _⟩

theorem strT_rep {t : ByteArray} {w : World} (ht : t.size ≤ reachN) : (strT t).Rep w (.agg #[.int .i64 4, .int .i64 0, .string t, .slice none 0 0, .slice none 0 0, .slice none 0 0]) :=
  rep_flat (by unfold I64; omega) (by unfold I64; omega) ht
theorem strT_good {t : ByteArray} (hv : Lib.validD t.data.toList = true) : (strT t).Good := by
  unfold strT RV.Good
  exact ⟨by decide, by decide, .inr rfl, .inl rfl, .inr rfl, .inr rfl, rfl, by decide, by decide, .inl rfl, hv, by unfold RV.GoodL; trivial, by simp, by intro i hi; simp at hi, by unfold RV.GoodL; trivial⟩

set_option maxRecDepth 100000 in
/-- Two strings that are one string are the same. -/
theorem cmp_text (t : ByteArray) (al ak av bl bk bv : Option Addr) (an ac m ck q cv bn bc bm ek bq ev : Nat) (w : World) :
    Calls Tryz.prog 40 #[.agg #[.int .i64 4, .int .i64 0, .string t, .slice al an ac, .slice ak m ck, .slice av q cv], .agg #[.int .i64 4, .int .i64 0, .string t, .slice bl bn bc, .slice bk bm ek, .slice bv bq ev]] w fun e w' => e = .returned (.int .i64 0) ∧ Below w.heap.size w w' := by
  have HB := Lib.hid (fun o o' => ((Below.refl w.heap.size w).alloc (Nat.le_refl _) o).alloc (by simp) o')
  have hT : ∀ wx, Calls Tryz.prog 80 #[.string t, .string t] wx fun e w' => e = .returned (.int .i64 0) ∧ w' = wx := fun wx => (texts_any t t wx).mono fun e w' ⟨⟨c, he, _, _, hc⟩, hw⟩ => ⟨by rw [he, hc.2 rfl], hw⟩
  have HT := Lib.hid hT
  clear hT
  go_enter Tryz.func40, Tryz.ntmps40
  go_wp2_with (go_at_call 80; refine (HT.out _).mono ?_; rintro e w3 ⟨rfl, rfl⟩)
  go_ret
  exact ⟨rfl, HB.out _ _⟩

set_option maxRecDepth 100000 in
theorem same_text (t : ByteArray) (al ak av bl bk bv : Option Addr) (an ac m ck q cv bn bc bm ek bq ev : Nat) (w : World) :
    Calls Tryz.prog 15 #[.agg #[.int .i64 4, .int .i64 0, .string t, .slice al an ac, .slice ak m ck, .slice av q cv], .agg #[.int .i64 4, .int .i64 0, .string t, .slice bl bn bc, .slice bk bm ek, .slice bv bq ev]] w fun e w' => e = .returned (.bool true) ∧ Below w.heap.size w w' := by
  have HB := Lib.hid (fun o o' => ((Below.refl w.heap.size w).alloc (Nat.le_refl _) o).alloc (by simp) o')
  have HC := Lib.hid (fun wx => cmp_text t al ak av bl bk bv an ac m ck q cv bn bc bm ek bq ev wx)
  go_enter Tryz.func15, Tryz.ntmps15
  go_wp2_with (go_at_call 40; refine (HC.out _).mono ?_; rintro e w3 ⟨rfl, hb3⟩; have HB3 := Lib.hid ((HB.out _ _).trans (hb3.mono (by simp; omega))); clear hb3)
  go_ret
  exact ⟨rfl, HB3.out⟩

/-- The answer of a string, taken apart. -/
theorem ResIs.text {t : ByteArray} {w : World} {r : Value} (h : ResIs (strT t) w r) : ∃ al an ac ak m ck av q cv, r = .agg #[.int .i64 4, .int .i64 0, .string t, .slice al an ac, .slice ak m ck, .slice av q cv, .int .i64 0] := by
  obtain ⟨k, h, t', al, n, cl, ak, m, ck, av, q, cv, e, hr⟩ := h
  unfold strT RV.Rep at hr
  obtain ⟨al', cl', ak', ck', av', cv', e2, _⟩ := hr
  simp only [Value.agg.injEq, Array.mk.injEq, List.cons.injEq, Value.int.injEq, Value.string.injEq, true_and, and_true] at e2
  obtain ⟨rfl, rfl, rfl, _⟩ := e2
  exact ⟨_, _, _, _, _, _, _, _, _, e⟩
end Go.Proofs.YtjpcdbopioblaaaGreatDoor
