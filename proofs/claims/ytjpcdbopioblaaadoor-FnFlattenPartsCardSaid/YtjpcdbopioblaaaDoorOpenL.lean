/- A row's argument that is a list of values, opened. -/
import Derived.Test.YtjpcdbopioblaaaDoorOpen
namespace Go.Proofs.YtjpcdbopioblaaaDoor
open Go.RowKit Go.WideShapes Go.ChangeShapes
section
variable {H : Type} {enc : TypeId × Value → H} {W : World} {base : Nat} {spare : Nat → Bool} {held : Bool}
set_option maxRecDepth 100000 in
theorem open_list {r : Reach} {b0 : Nat} {v : Value} {d : DataW H} {ps : List MemPlace} (hv : Value.okWide Tryd.prog W r b0 23 v) (h : DataW.Trod enc Tryd.prog W base spare held 23 v d ps)
    (hw : ∀ k ∈ d.weights Tryd.prog 23, k ≤ reachBytes) : ∃ (l : List RV) (a : Option Addr) (c : Nat), v = .slice a l.length c ∧ l.length ≤ reachN ∧ RV.RepL W a 0 l := by
  obtain ⟨a, n, c, rfl⟩ := okWide_slice Tryd.underlying23 hv
  obtain ⟨fuel, hf⟩ := h
  have hf' : DataW.trod enc Tryd.prog W base spare held fuel 23 [.slice a n c] = some (d, ps) := hf
  exact open_values (n := fuel) (fun m _ => rep_of_trod m) (Nat.le_refl _) hf' hw
end
theorem i8_of_wf {n : Int} (h : (Lit.int .i8 n).wf = true) : -128 ≤ n ∧ n ≤ 127 := by
  have := h
  simp [Lit.wf, IntKind.min, IntKind.max, IntKind.signed, IntKind.bits] at this
  omega
end Go.Proofs.YtjpcdbopioblaaaDoor
