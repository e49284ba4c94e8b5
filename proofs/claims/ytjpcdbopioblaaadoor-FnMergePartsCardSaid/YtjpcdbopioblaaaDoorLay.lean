/- The two tables of unicode/utf8 as the rows list them: a world that holds them, and what the condition gives the walks. -/
import Derived.Test.YtjpcdbopioblaaaDoorOpen
import Derived.LaidHandle
import Derived.Handed
import Derived.MakeChecks
namespace Go.Proofs.YtjpcdbopioblaaaDoor
open Go.RowKit

theorem first_is : Rows.laid_unicode_utf8_first = Lib.firstData := by kernel_rfl
theorem accept_is : (Rows.laid_unicode_utf8_acceptRanges : DataW Unit) = Lib.acceptData := by kernel_rfl

def Laid : List (String × DataW Unit) := [("unicode/utf8.acceptRanges", Rows.laid_unicode_utf8_acceptRanges), ("unicode/utf8.first", Rows.laid_unicode_utf8_first)]

/-- The settled world, the two variables holding what their initialisers lay. -/
noncomputable def laidWorld (os : Os) : World :=
  let w0 := World.holding Tryd.prog os ⟨#[], #[], []⟩
  let put (h : Array Obj) (g : Nat) (cs : Array Value) : Array Obj := h.modify g fun
    | .cells _ t frozen => .cells cs t frozen
    | o => o
  let h1 := put w0.heap 0 (Lib.firstTab.map fun z => Value.int .u8 z).toArray
  let h2 := put h1 1 ((List.range 16).flatMap fun i => [Value.int .u8 (Lib.accLo i), Value.int .u8 (Lib.accHi i)]).toArray
  { w0 with heap := h2 }

theorem laid_met (os : Os) (args : Array Value) : laidMetH Tryd.prog Laid ((laidWorld os).forCall (fun _ _ => 0) ⟨#[], args, []⟩).memory :=
  laidMetH_of_parts ((LaidIn.of_run (l := Laid) [0, 1] 8 (by kernel_rfl) (by kernel_rfl) (by kernel_rfl) (by kernel_rfl)).met) (by kernel_rfl)

theorem tabs_of_laid {W : World} (h : laidMetH Tryd.prog Laid W) : Tabs W := by
  have hL : laidMet Tryd.prog Laid W := h
  unfold Laid at hL
  rw [first_is, accept_is] at hL
  exact utf8Tabs_of_readsT (U8Types.of196 Tryd.laysValid) ⟨by kernel_rfl, by kernel_rfl, by kernel_rfl, by kernel_rfl, by kernel_rfl, by kernel_rfl, by kernel_rfl⟩
    (Lib.laidMet.reads hL (.tail _ (.head _))) (Lib.laidMet.reads hL (.head _))
end Go.Proofs.YtjpcdbopioblaaaDoor
