/-
  DERIVED: THE SHELF's CONTRACTS AT THIS DUMP, IN PLAIN WORDS (tools/lay-plain.mjs out of 'TrydCopyTry.lean', which tools/lay-shelf.mjs wrote): THE SAME DECLARATIONS UNDER THE SAME NAMES: 'import', 'namespace', 'open', 'def', 'theorem' AND NOTHING ELSE: no command of the shelf's: FOR A HAND-IN. Each laying: the table of numbers ('.._ren') and one theorem, a field a fact of the dump's own or the kernel's comparison; each contract: ONE APPLICATION.
-/
import Derived.Shelf.SlMaps.Copy
import Derived.Ground.SlmpProg
import Derived.Test.YtjpcdbopioblaaaDoorProg
namespace Go.Proofs
open Go.Shelf
def Tryd.copyM_ren : Go.Shelf.Ren := ⟨fun | 5 => 90 | n => n, fun | 23 => 94 | 24 => 94 | 26 => 9 | 27 => 20 | 0 => 0 | 4 => 4 | n => n, fun | n => n⟩
theorem Tryd.copyM : Go.Proofs.SlLaysX.n5 Tryd.prog Tryd.copyM_ren := {
  mixed := by kernel_rfl
  f5 := ⟨Tryd.f90.name, by decide, Tryd.func90.trans (congrArg some (by kernel_rfl))⟩
  t0 := Tryd.underlying0
  a0 := Tryd.isAgg0
  z0 := Tryd.sizeOf0
  v0 := Tryd.zeroValue0
  t4 := Tryd.underlying4
  a4 := Tryd.isAgg4
  z4 := Tryd.sizeOf4
  v4 := Tryd.zeroValue4
  t23 := Tryd.underlying94
  a23 := Tryd.isAgg94
  z23 := Tryd.sizeOf94
  v23 := Tryd.zeroValue94
  t24 := Tryd.underlying94
  a24 := Tryd.isAgg94
  z24 := Tryd.sizeOf94
  v24 := Tryd.zeroValue94
  a26 := Tryd.isAgg9
  z26 := Tryd.sizeOf9
  a27 := Tryd.isAgg20
  z27 := Tryd.sizeOf20 }
end Go.Proofs
