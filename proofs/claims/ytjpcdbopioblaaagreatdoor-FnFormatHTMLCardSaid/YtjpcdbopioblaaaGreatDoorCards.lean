/-
  DERIVED. GIVEN WITH THE SEED: THE CARDS: each row of YtjpcdbopioblaaaGreatDoorRows.lean that lists a variable, with what it lists TIED to the program's text (the seventh form; the later family's looks); each row that meets fmt, with fmt's text TOLD by the authors' own Lean function (tested against real Go, not proved from fmt's source: count such statements apart). THE CARD IS WHAT COUNTS. Prove the row's statement (the work); the ties are given (YtjpcdbopioblaaaGreatDoorTie.lean); close each card by the builder's one call (the guide's Derived/Test/ToyasCard.lean, 'card_holds'). Laid BY PROGRAM, IN A SANDBOX (cutbox-door.mjs). By AI agents, Wed Nov 11 2026. No macro, syntax, notation, axiom, sorry.
-/
import Derived.Test.YtjpcdbopioblaaaGreatDoorRows
import GoSem.ClaimSeven
namespace Go.Proofs.YtjpcdbopioblaaaGreatDoor
namespace Rows

/-- THE TIED CARD OF 'laws.FnReverse'. -/
def fnReverseCard : Claim7 := { stood := { row := fnReverseRow, standIns := [], harness := (true, "a66ea1166dd8c7c1b9100e3fd2376d6bb5e05c122e9f9dc73d755af1ff8f9d86"), looks := true }, kinds := [], alts := [], laidByText := true, laidKinds := [.data, .pinned], laidTests := true, laidLooks := .later }
def FnReverseCardSaid : Prop := Claim7.holds Tryz.pinned (.plain (OpenSpec.ofChange fnReverseSpec)) fnReverseCard

/-- THE TIED CARD OF 'laws.FnMarshalApart'. -/
def fnMarshalApartCard : Claim7 := { stood := { row := fnMarshalApartRow, standIns := [], harness := (true, "a66ea1166dd8c7c1b9100e3fd2376d6bb5e05c122e9f9dc73d755af1ff8f9d86"), looks := true }, kinds := [], alts := [], laidByText := true, laidKinds := [.data, .pinned], laidTests := true, laidLooks := .later }
def FnMarshalApartCardSaid : Prop := Claim7.holds Tryz.pinned (.plain (OpenSpec.ofChange fnMarshalApartSpec)) fnMarshalApartCard

/-- THE TIED CARD OF 'laws.FnFormatHTML'. -/
def fnFormatHTMLCard : Claim7 := { stood := { row := fnFormatHTMLRow, standIns := [], harness := (true, "a66ea1166dd8c7c1b9100e3fd2376d6bb5e05c122e9f9dc73d755af1ff8f9d86"), looks := true }, kinds := [], alts := [], laidByText := true, laidKinds := [.data, .pinned], laidTests := true, laidLooks := .later }
def FnFormatHTMLCardSaid : Prop := Claim7.holds Tryz.pinned (.plain (OpenSpec.ofChange fnFormatHTMLSpec)) fnFormatHTMLCard

/-- THE TIED CARD OF 'laws.FnURIBack'. -/
def fnURIBackCard : Claim7 := { stood := { row := fnURIBackRow, standIns := [], harness := (true, "a66ea1166dd8c7c1b9100e3fd2376d6bb5e05c122e9f9dc73d755af1ff8f9d86"), looks := true }, kinds := [], alts := [], laidByText := true, laidKinds := [.data, .data, .pinned], laidTests := true, laidLooks := .later }
def FnURIBackCardSaid : Prop := Claim7.holds Tryz.pinned (.plain (OpenSpec.ofChange fnURIBackSpec)) fnURIBackCard

/-- THE SECOND FORM's CARD OF 'laws.FnReverse'. -/
def fnReverseUptoCard : Claim7 := { stood := { row := fnReverseUptoRow, standIns := [], harness := (true, "a66ea1166dd8c7c1b9100e3fd2376d6bb5e05c122e9f9dc73d755af1ff8f9d86"), looks := true }, kinds := [], alts := [], laidByText := true, laidKinds := [.data, .pinned], laidTests := true, laidLooks := .later }
def FnReverseUptoCardSaid : Prop := Claim7.holds Tryz.pinned (.plain (OpenSpec.upto fnReverseSpec)) fnReverseUptoCard

/-- THE SECOND FORM's CARD OF 'laws.FnMarshalApart'. -/
def fnMarshalApartUptoCard : Claim7 := { stood := { row := fnMarshalApartUptoRow, standIns := [], harness := (true, "a66ea1166dd8c7c1b9100e3fd2376d6bb5e05c122e9f9dc73d755af1ff8f9d86"), looks := true }, kinds := [], alts := [], laidByText := true, laidKinds := [.data, .pinned], laidTests := true, laidLooks := .later }
def FnMarshalApartUptoCardSaid : Prop := Claim7.holds Tryz.pinned (.plain (OpenSpec.upto fnMarshalApartSpec)) fnMarshalApartUptoCard

/-- THE SECOND FORM's CARD OF 'laws.FnFormatHTML'. -/
def fnFormatHTMLUptoCard : Claim7 := { stood := { row := fnFormatHTMLUptoRow, standIns := [], harness := (true, "a66ea1166dd8c7c1b9100e3fd2376d6bb5e05c122e9f9dc73d755af1ff8f9d86"), looks := true }, kinds := [], alts := [], laidByText := true, laidKinds := [.data, .pinned], laidTests := true, laidLooks := .later }
def FnFormatHTMLUptoCardSaid : Prop := Claim7.holds Tryz.pinned (.plain (OpenSpec.upto fnFormatHTMLSpec)) fnFormatHTMLUptoCard

/-- THE SECOND FORM's CARD OF 'laws.FnURIBack'. -/
def fnURIBackUptoCard : Claim7 := { stood := { row := fnURIBackUptoRow, standIns := [], harness := (true, "a66ea1166dd8c7c1b9100e3fd2376d6bb5e05c122e9f9dc73d755af1ff8f9d86"), looks := true }, kinds := [], alts := [], laidByText := true, laidKinds := [.data, .data, .pinned], laidTests := true, laidLooks := .later }
def FnURIBackUptoCardSaid : Prop := Claim7.holds Tryz.pinned (.plain (OpenSpec.upto fnURIBackSpec)) fnURIBackUptoCard
end Rows
end Go.Proofs.YtjpcdbopioblaaaGreatDoor
