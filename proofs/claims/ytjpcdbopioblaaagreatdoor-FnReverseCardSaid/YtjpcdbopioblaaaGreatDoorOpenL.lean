/- A row's argument that is a list of values, opened. -/
import Derived.Test.YtjpcdbopioblaaaGreatDoorOpen
namespace Go.Proofs.YtjpcdbopioblaaaGreatDoor
open Go.RowKit Go.WideShapes Go.ChangeShapes
section
variable {H : Type} {enc : TypeId × Value → H} {W : World} {base : Nat} {spare : Nat → Bool} {held : Bool}
set_option maxRecDepth 100000 in
theorem open_list {r : Reach} {b0 : Nat} {v : Value} {d : DataW H} {ps : List MemPlace} (hv : Value.okWide Tryz.prog W r b0 22 v) (h : DataW.Trod enc Tryz.prog W base spare held 22 v d ps)
    (hw : ∀ k ∈ d.weights Tryz.prog 22, k ≤ reachBytes) : ∃ (l : List RV) (a : Option Addr) (c : Nat), v = .slice a l.length c ∧ l.length ≤ reachN ∧ RV.RepL W a 0 l := by
  obtain ⟨a, n, c, rfl⟩ := okWide_slice Tryz.underlying22 hv
  obtain ⟨fuel, hf⟩ := h
  have hf' : DataW.trod enc Tryz.prog W base spare held fuel 22 [.slice a n c] = some (d, ps) := hf
  exact open_values (n := fuel) (fun m _ => rep_of_trod m) (Nat.le_refl _) hf' hw
end
theorem i8_of_wf {n : Int} (h : (Lit.int .i8 n).wf = true) : -128 ≤ n ∧ n ≤ 127 := by
  have := h
  simp [Lit.wf, IntKind.min, IntKind.max, IntKind.signed, IntKind.bits] at this
  omega
end Go.Proofs.YtjpcdbopioblaaaGreatDoor
