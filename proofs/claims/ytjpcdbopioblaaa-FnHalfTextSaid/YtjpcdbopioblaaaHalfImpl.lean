/- impl.HalfText walked. -/
import Derived.Test.YtjpcdbopioblaaaEncFloat2
import Derived.Test.YtjpcdbopioblaaaBuilderW
namespace Go.Proofs.Ytjpcdbopioblaaa
open Go.RowKit

def encZero : Array Value := #[.nilIface] ++ Array.replicate 64 (.int .u8 0)
theorem encZero_run (w : World) : (zeroValue 35).run Try.prog w = .ok (.agg encZero) w := by kernel_rfl
theorem encZero_ne : (encZero = #[]) = False := by
  refine eq_false fun h => ?_
  have : encZero.size = 0 := by rw [h]; rfl
  exact absurd this (by decide)
theorem encZero_set (v : Value) : (encZero.setIfInBounds 0 v)[0]? = some v ∧ (encZero.setIfInBounds 0 v).size = 65 := by
  have h : encZero.size = 65 := by decide
  refine ⟨?_, by rw [Array.size_setIfInBounds, h]⟩
  rw [Array.getElem?_setIfInBounds]
  simp [h]

set_option maxRecDepth 100000 in
set_option maxHeartbeats 800000 in
theorem zzFloat_any (h : Int) (B b : Nat) (w : World) (hb : Lib.IsBuilderF 27 5 B b [] w) (hB : B ≤ w.heap.size) (hlt : b < w.heap.size) (h1 : -9007199254740992 < h) (h2 : h < 9007199254740992) :
    Calls Try.prog 7 #[.pointer (some ⟨b, 0, none⟩), .float .f64 (halfBits h)] w fun e w' => e = .returned (.tuple #[]) ∧ bldWr.Is B b (numBytes h) w' ∧ Below B w w' := by
  have HE : Hid (∀ cs : Array Value, cs[0]? = some (.iface 24 (.pointer (some ⟨b, 0, none⟩))) → cs.size = 65 → EncS bldWr B b w.heap.size [] (w.alloc (.cells cs 35))) := Lib.hid fun cs hc hz =>
    ⟨by show Lib.IsBuilderF _ _ _ _ _ _; simpa [Lib.byteCells] using hb.alloc _, ⟨cs, heap_alloc_new w _, hc, hz⟩, by omega, hB, by simp; omega⟩
  have HA : Hid (∀ o, Below B w (w.alloc o)) := Lib.hid fun o => (Below.refl B w).alloc hB o
  have HF := Lib.hid fun wx hx => encodeFloat64_any bldWr bldWr_keeps bldWr_writes h B b w.heap.size [] wx hx h1 h2 (by simp)
  clear hb hB hlt h1 h2
  rw [List.nil_append] at HF
  generalize halfBits h = F at *
  have hz := encZero_run
  have hzn := encZero_ne
  go_enter Try.func7, Try.ntmps7
  go_wp2_with fail
  refine Calls.mono (HF.out _ ?_) ?_
  · exact HE.out _ (encZero_set _).1 (encZero_set _).2
  rintro e w2 ⟨rfl, h2, hb2, hk2⟩
  have H2 := Lib.hid h2.bld
  have HB2 := Lib.hid ((HA.out _).trans hb2)
  clear h2 hb2 hk2
  go_wp2_with fail
  go_end0
  exact ⟨rfl, H2.out, HB2.out⟩

set_option maxRecDepth 100000 in
set_option maxHeartbeats 800000 in
theorem halfText_any (h : Int) (w : World) (h1 : -9007199254740992 < h) (h2 : h < 9007199254740992) :
    Calls Try.prog 5 #[.int .i64 h] w fun e w' => e = .returned (.string ⟨(numBytes h).toArray⟩) ∧ Below w.heap.size w w' := by
  have hq : ∀ w, (binOp .quo 29 (.float .f64 (floatOfInt .f64 h)) (.float .f64 4611686018427387904)).run Try.prog w = .ok (.float .f64 (halfBits h)) w := fun w => run_float_arith w .quo 29 .f64 _ _ _ (half_bits h h1 h2)
  have HA : Hid (∀ o, Below w.heap.size w (w.alloc o)) := Lib.hid fun o => (Below.refl _ w).alloc (Nat.le_refl _) o
  have HZ := Lib.hid (zzFloat_any h w.heap.size w.heap.size (w.alloc (.cells #[.pointer none, .slice none 0 0] 27)) (.of (Lib.fresh_isBuilder _ _ w)) (by simp) (by simp) h1 h2)
  clear h1 h2
  generalize halfBits h = F at *
  generalize numBytes h = t at *
  go_enter Try.func5, Try.ntmps5
  go_wp2_with fail
  refine HZ.out.mono ?_
  rintro e w2 ⟨rfl, h2, hb2⟩
  have H2 := Lib.hid h2
  have HB2 := Lib.hid ((HA.out _).trans hb2)
  clear h2 hb2 HZ HA
  go_wp2_with fail
  refine (Go.Proofs.Try.bld_String_k _ _ t _ H2.out HB2.out.size).mono ?_
  rintro e w3 ⟨rfl, h3, hb3, hk3⟩
  have HB3 := Lib.hid (HB2.out.trans hb3)
  clear h3 hb3 hk3
  go_wp2_with fail
  go_ret
  exact ⟨rfl, HB3.out⟩
end Go.Proofs.Ytjpcdbopioblaaa
