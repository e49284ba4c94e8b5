/- The two tables of unicode/utf8 and net/url's table as the rows list them: a world that holds them, and what the condition gives the walks. -/
import Derived.Test.YtjpcdbopioblaaaGreatDoorLay
import Derived.Test.YtjpcdbopioblaaaGreatDoorUriEsc
import Derived.LaidHandle
import Derived.Handed
import Derived.MakeChecks
namespace Go.Proofs.YtjpcdbopioblaaaGreatDoor
open Go.RowKit

theorem url_is : (Rows.laid_net_url_table : DataW Unit) = Lib.tabData .u8 urlTab := by kernel_rfl
def LaidU : List (String × DataW Unit) := [("unicode/utf8.acceptRanges", Rows.laid_unicode_utf8_acceptRanges), ("net/url.table", Rows.laid_net_url_table), ("unicode/utf8.first", Rows.laid_unicode_utf8_first)]

/-- The settled world, the two variables holding what their initialisers lay. -/
noncomputable def laidWorldU (os : Os) : World :=
  let w0 := World.holding Tryz.prog os ⟨#[], #[], []⟩
  let put (h : Array Obj) (g : Nat) (cs : Array Value) : Array Obj := h.modify g fun
    | .cells _ t frozen => .cells cs t frozen
    | o => o
  let h1 := put w0.heap 0 (Lib.firstTab.map fun z => Value.int .u8 z).toArray
  let h2 := put h1 1 ((List.range 16).flatMap fun i => [Value.int .u8 (Lib.accLo i), Value.int .u8 (Lib.accHi i)]).toArray
  let h3 := put h2 3 (urlTab.map fun z => Value.int .u8 z).toArray
  { w0 with heap := h3 }

theorem laid_metU (os : Os) (args : Array Value) : laidMetH Tryz.prog LaidU ((laidWorldU os).forCall (fun _ _ => 0) ⟨#[], args, []⟩).memory :=
  laidMetH_of_parts ((LaidIn.of_run (l := LaidU) [0, 1, 3] 8 (by kernel_rfl) (by kernel_rfl) (by kernel_rfl) (by kernel_rfl)).met) (by kernel_rfl)

theorem tabs_of_laidU {W : World} (h : laidMetH Tryz.prog LaidU W) : Tabs W := by
  have hL : laidMet Tryz.prog LaidU W := h
  unfold LaidU at hL
  rw [first_is, accept_is] at hL
  exact utf8Tabs_of_readsT (U8Types.of196 Tryz.laysValid) ⟨by kernel_rfl, by kernel_rfl, by kernel_rfl, by kernel_rfl, by kernel_rfl, by kernel_rfl, by kernel_rfl⟩
    (Lib.laidMet.reads hL (.tail _ (.tail _ (.head _)))) (Lib.laidMet.reads hL (.head _))
theorem tabU_of_laid {W : World} (h : laidMetH Tryz.prog LaidU W) : TabU W := by
  have hL : laidMet Tryz.prog LaidU W := h
  unfold LaidU at hL
  rw [url_is] at hL
  obtain ⟨g, t, cs, fuel, p, hg, hty, hvar, hd⟩ := Lib.laidMet.reads hL (.tail _ (.head _))
  obtain rfl := Option.some.inj ((show Tryz.prog.globalNamed "net/url.table" = some 3 by kernel_rfl).symm.trans hg)
  obtain rfl := Option.some.inj ((show (Tryz.prog.globals[3]?).map (·.type) = some 256 by kernel_rfl).symm.trans hty)
  have hcs := Lib.cells_of_tab Tryz.underlying256 Tryz.underlying190 (by kernel_rfl) (by kernel_rfl) hd
  intro n hn
  have h1 := World.var?_cell hg hvar n
  rw [h1, ← Array.getElem?_toList, hcs]
  have hl : n < urlTab.length := by rw [urlTab_len]; exact hn
  simp [List.getD_eq_getElem?_getD, List.getElem?_eq_getElem hl]
end Go.Proofs.YtjpcdbopioblaaaGreatDoor
