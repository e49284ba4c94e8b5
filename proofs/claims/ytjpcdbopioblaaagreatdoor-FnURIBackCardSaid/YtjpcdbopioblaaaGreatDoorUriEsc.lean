/- net/url's escape walked. -/
import Derived.Test.YtjpcdbopioblaaaGreatDoorUriPlain
import Derived.Test.YtjpcdbopioblaaaGreatDoorByteRow
import Derived.Test.YtjpcdbopioblaaaGreatDoorLook
namespace Go.Proofs.YtjpcdbopioblaaaGreatDoor
open Go.RowKit

/-- The library's table lies in the world. -/
def TabU (w : World) : Prop := ∀ n, n < 256 → w.cell? ⟨3, n, none⟩ = some (.int .u8 (urlTab.getD n 0))
theorem TabU.below {w w' : World} (h : TabU w) (hb : Below w.heap.size w w') : TabU w' := fun n hn => (hb.cell (p := ⟨_, _, none⟩) (cell_lt (h n hn))).trans (h n hn)

theorem shouldEscape_any (c : UInt8) (w : World) (hT : TabU w) :
    Calls Tryz.prog 187 #[.int .u8 c.toNat, .int .u8 32] w fun e w' => e = .returned (.bool (!keepB c)) ∧ w' = w := by
  have hc := hT c.toNat c.toNat_lt
  have hk : (bits .and .u8 (urlTab.getD c.toNat 0) 32 == 0) = !keepB c := by unfold keepB keepN; simp [bne]
  have hl : (c.toNat : Int) < 256 := by have := c.toNat_lt; omega
  generalize urlTab.getD c.toNat 0 = t at hc hk
  generalize keepB c = kp at hk ⊢
  clear hT
  go_enter Tryz.func187, Tryz.ntmps187
  go_wp2_with fail
  trace_state
  go_ret
  exact ⟨rfl, rfl⟩
end Go.Proofs.YtjpcdbopioblaaaGreatDoor
