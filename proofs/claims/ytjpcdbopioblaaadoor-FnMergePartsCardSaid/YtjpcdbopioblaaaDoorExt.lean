/- The library's functions that the laws call, by the shelf's contracts. -/
import Derived.Test.YtjpcdbopioblaaaDoorBase
import Derived.Test.YtjpcdbopioblaaaDoorShelf
namespace Go.Proofs.YtjpcdbopioblaaaDoor
open Go.RowKit

/-- The two tables of unicode/utf8 lie as their initialisers lay them. -/
def Tabs (w : World) : Prop := Lib.Utf8Tabs 0 1 w
theorem Tabs.below {w w' : World} (h : Tabs w) (hb : Below w.heap.size w w') : Tabs w' := Utf8Tabs_below h hb

theorem valid_c (s : ByteArray) (w : World) (hs : s.size ≤ 9223372036854775807) (hT : Tabs w) :
    Calls Tryd.prog 14 #[.string s] w fun e w' => e = .returned (.bool (Lib.validD s.data.toList)) ∧ Below w.heap.size w w' := Go.Proofs.Tryd.utf8_ValidString s w hs hT
end Go.Proofs.YtjpcdbopioblaaaDoor
