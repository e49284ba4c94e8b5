/-
  DERIVED. GIVEN WITH THE SEED: THE CARDS: each row of YtjpcdbopioblaaaDoorRows.lean that lists a variable, with what it lists TIED to the program's text (the seventh form; the later family's looks); each row that meets fmt, with fmt's text TOLD by the authors' own Lean function (tested against real Go, not proved from fmt's source: count such statements apart). THE CARD IS WHAT COUNTS. Prove the row's statement (the work); the ties are given (YtjpcdbopioblaaaDoorTie.lean); close each card by the builder's one call (the guide's Derived/Test/ToyasCard.lean, 'card_holds'). Laid BY PROGRAM, IN A SANDBOX (cutbox-door.mjs). By AI agents, Wed Nov 11 2026. No macro, syntax, notation, axiom, sorry.
-/
import Derived.Test.YtjpcdbopioblaaaDoorRows
import GoSem.ClaimSeven
namespace Go.Proofs.YtjpcdbopioblaaaDoor
namespace Rows

/-- THE TIED CARD OF 'laws.FnTypeOf'. -/
def fnTypeOfCard : Claim7 := { stood := { row := fnTypeOfRow, standIns := [], harness := (true, "5fde7c5e01d8fd1c44d542ef70d1b04a671af43b5c8715d2fa03d5385c741d0b"), looks := true }, kinds := [], alts := [], laidByText := true, laidKinds := [.data, .pinned], laidTests := true, laidLooks := .later }
def FnTypeOfCardSaid : Prop := Claim7.holds Tryd.pinned (.plain (OpenSpec.ofChange fnTypeOfSpec)) fnTypeOfCard

/-- THE TIED CARD OF 'laws.FnQuote'. -/
def fnQuoteCard : Claim7 := { stood := { row := fnQuoteRow, standIns := [], harness := (true, "5fde7c5e01d8fd1c44d542ef70d1b04a671af43b5c8715d2fa03d5385c741d0b"), looks := true }, kinds := [], alts := [], laidByText := true, laidKinds := [.data, .pinned], laidTests := true, laidLooks := .later }
def FnQuoteCardSaid : Prop := Claim7.holds Tryd.pinned (.plain (OpenSpec.ofChange fnQuoteSpec)) fnQuoteCard

/-- THE TIED CARD OF 'laws.FnFlattenParts'. -/
def fnFlattenPartsCard : Claim7 := { stood := { row := fnFlattenPartsRow, standIns := [], harness := (true, "5fde7c5e01d8fd1c44d542ef70d1b04a671af43b5c8715d2fa03d5385c741d0b"), looks := true }, kinds := [], alts := [], laidByText := true, laidKinds := [.data, .pinned], laidTests := true, laidLooks := .later }
def FnFlattenPartsCardSaid : Prop := Claim7.holds Tryd.pinned (.plain (OpenSpec.ofChange fnFlattenPartsSpec)) fnFlattenPartsCard

/-- THE TIED CARD OF 'laws.FnIndexList'. -/
def fnIndexListCard : Claim7 := { stood := { row := fnIndexListRow, standIns := [], harness := (true, "5fde7c5e01d8fd1c44d542ef70d1b04a671af43b5c8715d2fa03d5385c741d0b"), looks := true }, kinds := [], alts := [], laidByText := true, laidKinds := [.data, .pinned], laidTests := true, laidLooks := .later }
def FnIndexListCardSaid : Prop := Claim7.holds Tryd.pinned (.plain (OpenSpec.ofChange fnIndexListSpec)) fnIndexListCard

/-- THE TIED CARD OF 'laws.FnMergeParts'. -/
def fnMergePartsCard : Claim7 := { stood := { row := fnMergePartsRow, standIns := [], harness := (true, "5fde7c5e01d8fd1c44d542ef70d1b04a671af43b5c8715d2fa03d5385c741d0b"), looks := true }, kinds := [], alts := [], laidByText := true, laidKinds := [.data, .pinned], laidTests := true, laidLooks := .later }
def FnMergePartsCardSaid : Prop := Claim7.holds Tryd.pinned (.plain (OpenSpec.ofChange fnMergePartsSpec)) fnMergePartsCard

/-- THE TIED CARD OF 'laws.FnRTrimStr'. -/
def fnRTrimStrCard : Claim7 := { stood := { row := fnRTrimStrRow, standIns := [], harness := (true, "5fde7c5e01d8fd1c44d542ef70d1b04a671af43b5c8715d2fa03d5385c741d0b"), looks := true }, kinds := [], alts := [], laidByText := true, laidKinds := [.data, .pinned], laidTests := true, laidLooks := .later }
def FnRTrimStrCardSaid : Prop := Claim7.holds Tryd.pinned (.plain (OpenSpec.ofChange fnRTrimStrSpec)) fnRTrimStrCard

/-- THE TIED CARD OF 'laws.FnNegateTwice'. -/
def fnNegateTwiceCard : Claim7 := { stood := { row := fnNegateTwiceRow, standIns := [], harness := (true, "5fde7c5e01d8fd1c44d542ef70d1b04a671af43b5c8715d2fa03d5385c741d0b"), looks := true }, kinds := [], alts := [], laidByText := true, laidKinds := [.data, .pinned], laidTests := true, laidLooks := .later }
def FnNegateTwiceCardSaid : Prop := Claim7.holds Tryd.pinned (.plain (OpenSpec.ofChange fnNegateTwiceSpec)) fnNegateTwiceCard

/-- THE SECOND FORM's CARD OF 'laws.FnTypeOf'. -/
def fnTypeOfUptoCard : Claim7 := { stood := { row := fnTypeOfUptoRow, standIns := [], harness := (true, "5fde7c5e01d8fd1c44d542ef70d1b04a671af43b5c8715d2fa03d5385c741d0b"), looks := true }, kinds := [], alts := [], laidByText := true, laidKinds := [.data, .pinned], laidTests := true, laidLooks := .later }
def FnTypeOfUptoCardSaid : Prop := Claim7.holds Tryd.pinned (.plain (OpenSpec.upto fnTypeOfSpec)) fnTypeOfUptoCard

/-- THE SECOND FORM's CARD OF 'laws.FnQuote'. -/
def fnQuoteUptoCard : Claim7 := { stood := { row := fnQuoteUptoRow, standIns := [], harness := (true, "5fde7c5e01d8fd1c44d542ef70d1b04a671af43b5c8715d2fa03d5385c741d0b"), looks := true }, kinds := [], alts := [], laidByText := true, laidKinds := [.data, .pinned], laidTests := true, laidLooks := .later }
def FnQuoteUptoCardSaid : Prop := Claim7.holds Tryd.pinned (.plain (OpenSpec.upto fnQuoteSpec)) fnQuoteUptoCard

/-- THE SECOND FORM's CARD OF 'laws.FnFlattenParts'. -/
def fnFlattenPartsUptoCard : Claim7 := { stood := { row := fnFlattenPartsUptoRow, standIns := [], harness := (true, "5fde7c5e01d8fd1c44d542ef70d1b04a671af43b5c8715d2fa03d5385c741d0b"), looks := true }, kinds := [], alts := [], laidByText := true, laidKinds := [.data, .pinned], laidTests := true, laidLooks := .later }
def FnFlattenPartsUptoCardSaid : Prop := Claim7.holds Tryd.pinned (.plain (OpenSpec.upto fnFlattenPartsSpec)) fnFlattenPartsUptoCard

/-- THE SECOND FORM's CARD OF 'laws.FnIndexList'. -/
def fnIndexListUptoCard : Claim7 := { stood := { row := fnIndexListUptoRow, standIns := [], harness := (true, "5fde7c5e01d8fd1c44d542ef70d1b04a671af43b5c8715d2fa03d5385c741d0b"), looks := true }, kinds := [], alts := [], laidByText := true, laidKinds := [.data, .pinned], laidTests := true, laidLooks := .later }
def FnIndexListUptoCardSaid : Prop := Claim7.holds Tryd.pinned (.plain (OpenSpec.upto fnIndexListSpec)) fnIndexListUptoCard

/-- THE SECOND FORM's CARD OF 'laws.FnMergeParts'. -/
def fnMergePartsUptoCard : Claim7 := { stood := { row := fnMergePartsUptoRow, standIns := [], harness := (true, "5fde7c5e01d8fd1c44d542ef70d1b04a671af43b5c8715d2fa03d5385c741d0b"), looks := true }, kinds := [], alts := [], laidByText := true, laidKinds := [.data, .pinned], laidTests := true, laidLooks := .later }
def FnMergePartsUptoCardSaid : Prop := Claim7.holds Tryd.pinned (.plain (OpenSpec.upto fnMergePartsSpec)) fnMergePartsUptoCard

/-- THE SECOND FORM's CARD OF 'laws.FnRTrimStr'. -/
def fnRTrimStrUptoCard : Claim7 := { stood := { row := fnRTrimStrUptoRow, standIns := [], harness := (true, "5fde7c5e01d8fd1c44d542ef70d1b04a671af43b5c8715d2fa03d5385c741d0b"), looks := true }, kinds := [], alts := [], laidByText := true, laidKinds := [.data, .pinned], laidTests := true, laidLooks := .later }
def FnRTrimStrUptoCardSaid : Prop := Claim7.holds Tryd.pinned (.plain (OpenSpec.upto fnRTrimStrSpec)) fnRTrimStrUptoCard

/-- THE SECOND FORM's CARD OF 'laws.FnNegateTwice'. -/
def fnNegateTwiceUptoCard : Claim7 := { stood := { row := fnNegateTwiceUptoRow, standIns := [], harness := (true, "5fde7c5e01d8fd1c44d542ef70d1b04a671af43b5c8715d2fa03d5385c741d0b"), looks := true }, kinds := [], alts := [], laidByText := true, laidKinds := [.data, .pinned], laidTests := true, laidLooks := .later }
def FnNegateTwiceUptoCardSaid : Prop := Claim7.holds Tryd.pinned (.plain (OpenSpec.upto fnNegateTwiceSpec)) fnNegateTwiceUptoCard
end Rows
end Go.Proofs.YtjpcdbopioblaaaDoor
