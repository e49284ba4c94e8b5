/-
  NARROWER THAN 'FOR EVERY INPUT', by the rows' own cells (each row's printed sentence says how): FnReverse: loops, laid · FnMarshalApart: loops, laid · FnFormatHTML: loops, laid · FnURIBack: laid.
  DERIVED. THE GIVEN ROWS OF THIS SEAT. 4 by the template 'for every input the law returns true; each argument reads behind the call as it read before'; 0 by the template 'total and deterministic' (their statements: YtjpcdbopioblaaaGreatDoorTotals.lean).
  GIVEN WITH THE SEED: the statements are not yours to turn. If you find one false, say at which input.
  Laid BY PROGRAM, IN A SANDBOX (cutbox-rows.mjs): the forced cells as the released guide's own fill.sh prints them over the translation 3c1969ca0a5788f3… (all of the seat's roots in one cut). By AI agents, Wed Nov 11 2026. No macro, syntax, notation, axiom, sorry.
-/
import Derived.Test.YtjpcdbopioblaaaGreatDoorChecked
import GoSem.PinnedTables
import GoSem.Claim
import GoSem.ClaimJoined
import GoSem.ClaimMapViews
import Derived.JoinedTies
import Derived.KernelRfl
namespace Go.Proofs.YtjpcdbopioblaaaGreatDoor
/- THE CELL 'sum', in the pinned program and in every row, IS THE sha256 OF THE DUMP (.gsa) THAT YtjpcdbopioblaaaGreatDoorProg.lean LOADS. Nothing in Lean hashes anything: it is a label: what it is worth is what the hold of that sum in a sandbox is worth. -/
noncomputable def Tryz.pinned : Pinned := { name := "ytjpcdbopioblaaagreatdoor", sum := "3c1969ca0a5788f39538a38d305f9603e21f657a48785f8debb49995ecb761eb", checked := Tryz.checked }
namespace Rows
def none {H : Type} : Left H := { results := [], args := [] }

/- WHAT THE LISTED PACKAGE-LEVEL VARIABLES READ AS WHEN THE CALL BEGINS. Each datum BY PROGRAM (the guide's laid-datum.mjs) off the statement by which the dump's own 'gosem.cut.vars' lays the variable. In a bare row this is a premise. The card (YtjpcdbopioblaaaGreatDoorCards.lean) ties it to the program's text. -/
def laid_unicode_utf8_acceptRanges {H : Type} : DataW H := .agg [.agg [.lit (.int .u8 128), .lit (.int .u8 191)], .agg [.lit (.int .u8 160), .lit (.int .u8 191)], .agg [.lit (.int .u8 128), .lit (.int .u8 159)], .agg [.lit (.int .u8 144), .lit (.int .u8 191)], .agg [.lit (.int .u8 128), .lit (.int .u8 143)], .agg [.lit (.int .u8 0), .lit (.int .u8 0)], .agg [.lit (.int .u8 0), .lit (.int .u8 0)], .agg [.lit (.int .u8 0), .lit (.int .u8 0)], .agg [.lit (.int .u8 0), .lit (.int .u8 0)], .agg [.lit (.int .u8 0), .lit (.int .u8 0)], .agg [.lit (.int .u8 0), .lit (.int .u8 0)], .agg [.lit (.int .u8 0), .lit (.int .u8 0)], .agg [.lit (.int .u8 0), .lit (.int .u8 0)], .agg [.lit (.int .u8 0), .lit (.int .u8 0)], .agg [.lit (.int .u8 0), .lit (.int .u8 0)], .agg [.lit (.int .u8 0), .lit (.int .u8 0)]]
/-- One of Go's own tables, pinned by name: the form's constant. -/
def laid_unicode_utf8_first : DataW Unit := Go.Pinned.utf8First
def laid_net_url_table {H : Type} : DataW H := .agg [.lit (.int .u8 0), .lit (.int .u8 0), .lit (.int .u8 0), .lit (.int .u8 0), .lit (.int .u8 0), .lit (.int .u8 0), .lit (.int .u8 0), .lit (.int .u8 0), .lit (.int .u8 0), .lit (.int .u8 0), .lit (.int .u8 0), .lit (.int .u8 0), .lit (.int .u8 0), .lit (.int .u8 0), .lit (.int .u8 0), .lit (.int .u8 0), .lit (.int .u8 0), .lit (.int .u8 0), .lit (.int .u8 0), .lit (.int .u8 0), .lit (.int .u8 0), .lit (.int .u8 0), .lit (.int .u8 0), .lit (.int .u8 0), .lit (.int .u8 0), .lit (.int .u8 0), .lit (.int .u8 0), .lit (.int .u8 0), .lit (.int .u8 0), .lit (.int .u8 0), .lit (.int .u8 0), .lit (.int .u8 0), .lit (.int .u8 0), .lit (.int .u8 76), .lit (.int .u8 12), .lit (.int .u8 0), .lit (.int .u8 95), .lit (.int .u8 0), .lit (.int .u8 95), .lit (.int .u8 12), .lit (.int .u8 76), .lit (.int .u8 76), .lit (.int .u8 76), .lit (.int .u8 95), .lit (.int .u8 93), .lit (.int .u8 127), .lit (.int .u8 127), .lit (.int .u8 65), .lit (.int .u8 255), .lit (.int .u8 255), .lit (.int .u8 255), .lit (.int .u8 255), .lit (.int .u8 255), .lit (.int .u8 255), .lit (.int .u8 255), .lit (.int .u8 255), .lit (.int .u8 255), .lit (.int .u8 255), .lit (.int .u8 79), .lit (.int .u8 93), .lit (.int .u8 12), .lit (.int .u8 95), .lit (.int .u8 12), .lit (.int .u8 64), .lit (.int .u8 67), .lit (.int .u8 255), .lit (.int .u8 255), .lit (.int .u8 255), .lit (.int .u8 255), .lit (.int .u8 255), .lit (.int .u8 255), .lit (.int .u8 127), .lit (.int .u8 127), .lit (.int .u8 127), .lit (.int .u8 127), .lit (.int .u8 127), .lit (.int .u8 127), .lit (.int .u8 127), .lit (.int .u8 127), .lit (.int .u8 127), .lit (.int .u8 127), .lit (.int .u8 127), .lit (.int .u8 127), .lit (.int .u8 127), .lit (.int .u8 127), .lit (.int .u8 127), .lit (.int .u8 127), .lit (.int .u8 127), .lit (.int .u8 127), .lit (.int .u8 127), .lit (.int .u8 127), .lit (.int .u8 12), .lit (.int .u8 0), .lit (.int .u8 12), .lit (.int .u8 0), .lit (.int .u8 127), .lit (.int .u8 0), .lit (.int .u8 255), .lit (.int .u8 255), .lit (.int .u8 255), .lit (.int .u8 255), .lit (.int .u8 255), .lit (.int .u8 255), .lit (.int .u8 127), .lit (.int .u8 127), .lit (.int .u8 127), .lit (.int .u8 127), .lit (.int .u8 127), .lit (.int .u8 127), .lit (.int .u8 127), .lit (.int .u8 127), .lit (.int .u8 127), .lit (.int .u8 127), .lit (.int .u8 127), .lit (.int .u8 127), .lit (.int .u8 127), .lit (.int .u8 127), .lit (.int .u8 127), .lit (.int .u8 127), .lit (.int .u8 127), .lit (.int .u8 127), .lit (.int .u8 127), .lit (.int .u8 127), .lit (.int .u8 0), .lit (.int .u8 0), .lit (.int .u8 0), .lit (.int .u8 127), .lit (.int .u8 0), .lit (.int .u8 0), .lit (.int .u8 0), .lit (.int .u8 0), .lit (.int .u8 0), .lit (.int .u8 0), .lit (.int .u8 0), .lit (.int .u8 0), .lit (.int .u8 0), .lit (.int .u8 0), .lit (.int .u8 0), .lit (.int .u8 0), .lit (.int .u8 0), .lit (.int .u8 0), .lit (.int .u8 0), .lit (.int .u8 0), .lit (.int .u8 0), .lit (.int .u8 0), .lit (.int .u8 0), .lit (.int .u8 0), .lit (.int .u8 0), .lit (.int .u8 0), .lit (.int .u8 0), .lit (.int .u8 0), .lit (.int .u8 0), .lit (.int .u8 0), .lit (.int .u8 0), .lit (.int .u8 0), .lit (.int .u8 0), .lit (.int .u8 0), .lit (.int .u8 0), .lit (.int .u8 0), .lit (.int .u8 0), .lit (.int .u8 0), .lit (.int .u8 0), .lit (.int .u8 0), .lit (.int .u8 0), .lit (.int .u8 0), .lit (.int .u8 0), .lit (.int .u8 0), .lit (.int .u8 0), .lit (.int .u8 0), .lit (.int .u8 0), .lit (.int .u8 0), .lit (.int .u8 0), .lit (.int .u8 0), .lit (.int .u8 0), .lit (.int .u8 0), .lit (.int .u8 0), .lit (.int .u8 0), .lit (.int .u8 0), .lit (.int .u8 0), .lit (.int .u8 0), .lit (.int .u8 0), .lit (.int .u8 0), .lit (.int .u8 0), .lit (.int .u8 0), .lit (.int .u8 0), .lit (.int .u8 0), .lit (.int .u8 0), .lit (.int .u8 0), .lit (.int .u8 0), .lit (.int .u8 0), .lit (.int .u8 0), .lit (.int .u8 0), .lit (.int .u8 0), .lit (.int .u8 0), .lit (.int .u8 0), .lit (.int .u8 0), .lit (.int .u8 0), .lit (.int .u8 0), .lit (.int .u8 0), .lit (.int .u8 0), .lit (.int .u8 0), .lit (.int .u8 0), .lit (.int .u8 0), .lit (.int .u8 0), .lit (.int .u8 0), .lit (.int .u8 0), .lit (.int .u8 0), .lit (.int .u8 0), .lit (.int .u8 0), .lit (.int .u8 0), .lit (.int .u8 0), .lit (.int .u8 0), .lit (.int .u8 0), .lit (.int .u8 0), .lit (.int .u8 0), .lit (.int .u8 0), .lit (.int .u8 0), .lit (.int .u8 0), .lit (.int .u8 0), .lit (.int .u8 0), .lit (.int .u8 0), .lit (.int .u8 0), .lit (.int .u8 0), .lit (.int .u8 0), .lit (.int .u8 0), .lit (.int .u8 0), .lit (.int .u8 0), .lit (.int .u8 0), .lit (.int .u8 0), .lit (.int .u8 0), .lit (.int .u8 0), .lit (.int .u8 0), .lit (.int .u8 0), .lit (.int .u8 0), .lit (.int .u8 0), .lit (.int .u8 0), .lit (.int .u8 0), .lit (.int .u8 0), .lit (.int .u8 0), .lit (.int .u8 0), .lit (.int .u8 0), .lit (.int .u8 0), .lit (.int .u8 0), .lit (.int .u8 0), .lit (.int .u8 0), .lit (.int .u8 0), .lit (.int .u8 0), .lit (.int .u8 0), .lit (.int .u8 0), .lit (.int .u8 0), .lit (.int .u8 0), .lit (.int .u8 0), .lit (.int .u8 0), .lit (.int .u8 0), .lit (.int .u8 0), .lit (.int .u8 0)]

/-- 'laws.FnReverse': WHATEVER THE INPUT: true; the input reads as it did. -/
def fnReverseSpec : ChangeSpec := { name := "fnReverse", fn := fun _ => fun
  | [d] => { results := [.lit (.bool true)], args := [d] }
  | _ => none }
def fnReverseRow : OpenClaim := { program := "ytjpcdbopioblaaagreatdoor", sum := "3c1969ca0a5788f39538a38d305f9603e21f657a48785f8debb49995ecb761eb", func := "pub-strainer/laws.FnReverse", spec := "fnReverse", inPlace := ["math.archTrunc", "math.Float64bits", "math.Float64frombits"], unfollowed := true, recurses := true, named := ["unicode/utf8.first", "unicode/utf8.acceptRanges"], loops := true, apart := false, laid := [("unicode/utf8.acceptRanges", laid_unicode_utf8_acceptRanges), ("unicode/utf8.first", laid_unicode_utf8_first)] }
def FnReverseSaid : Prop := fnReverseRow.holds Tryz.pinned (OpenSpec.ofChange fnReverseSpec)

/-- ITS FALSE NEIGHBOUR: 'it returns false'. Refute it at one input. -/
def fnReverseWrong : ChangeSpec := { name := "fnReverse", fn := fun _ => fun
  | [d] => { results := [.lit (.bool false)], args := [d] }
  | _ => none }
def FnReverseWrongFalsely : Prop := fnReverseRow.holds Tryz.pinned (OpenSpec.ofChange fnReverseWrong)

/-- 'laws.FnMarshalApart': WHATEVER THE INPUT: true; the input reads as it did. -/
def fnMarshalApartSpec : ChangeSpec := { name := "fnMarshalApart", fn := fun _ => fun
  | [d1, d2] => { results := [.lit (.bool true)], args := [d1, d2] }
  | _ => none }
def fnMarshalApartRow : OpenClaim := { program := "ytjpcdbopioblaaagreatdoor", sum := "3c1969ca0a5788f39538a38d305f9603e21f657a48785f8debb49995ecb761eb", func := "pub-strainer/laws.FnMarshalApart", spec := "fnMarshalApart", inPlace := ["math.Float64bits", "math.Float64frombits", "math.Float32bits", "internal/reflectlite.ValueOf", "internal/reflectlite.Swapper", "(internal/reflectlite.Value).Len"], unfollowed := true, recurses := true, named := ["unicode/utf8.first", "unicode/utf8.acceptRanges"], loops := true, apart := false, laid := [("unicode/utf8.acceptRanges", laid_unicode_utf8_acceptRanges), ("unicode/utf8.first", laid_unicode_utf8_first)] }
def FnMarshalApartSaid : Prop := fnMarshalApartRow.holds Tryz.pinned (OpenSpec.ofChange fnMarshalApartSpec)

/-- ITS FALSE NEIGHBOUR: 'it returns false'. Refute it at one input. -/
def fnMarshalApartWrong : ChangeSpec := { name := "fnMarshalApart", fn := fun _ => fun
  | [d1, d2] => { results := [.lit (.bool false)], args := [d1, d2] }
  | _ => none }
def FnMarshalApartWrongFalsely : Prop := fnMarshalApartRow.holds Tryz.pinned (OpenSpec.ofChange fnMarshalApartWrong)

/-- 'laws.FnFormatHTML': WHATEVER THE INPUT: true; the input reads as it did. -/
def fnFormatHTMLSpec : ChangeSpec := { name := "fnFormatHTML", fn := fun _ => fun
  | [d] => { results := [.lit (.bool true)], args := [d] }
  | _ => none }
def fnFormatHTMLRow : OpenClaim := { program := "ytjpcdbopioblaaagreatdoor", sum := "3c1969ca0a5788f39538a38d305f9603e21f657a48785f8debb49995ecb761eb", func := "pub-strainer/laws.FnFormatHTML", spec := "fnFormatHTML", inPlace := ["math.Float64bits", "math.Float64frombits", "math.Float32bits", "internal/reflectlite.ValueOf", "internal/reflectlite.Swapper", "(internal/reflectlite.Value).Len", "math.archTrunc"], unfollowed := true, recurses := true, named := ["unicode/utf8.first", "unicode/utf8.acceptRanges"], loops := true, apart := false, laid := [("unicode/utf8.acceptRanges", laid_unicode_utf8_acceptRanges), ("unicode/utf8.first", laid_unicode_utf8_first)] }
def FnFormatHTMLSaid : Prop := fnFormatHTMLRow.holds Tryz.pinned (OpenSpec.ofChange fnFormatHTMLSpec)

/-- ITS FALSE NEIGHBOUR: 'it returns false'. Refute it at one input. -/
def fnFormatHTMLWrong : ChangeSpec := { name := "fnFormatHTML", fn := fun _ => fun
  | [d] => { results := [.lit (.bool false)], args := [d] }
  | _ => none }
def FnFormatHTMLWrongFalsely : Prop := fnFormatHTMLRow.holds Tryz.pinned (OpenSpec.ofChange fnFormatHTMLWrong)

/-- 'laws.FnURIBack': WHATEVER THE INPUT: true; the input reads as it did. -/
def fnURIBackSpec : ChangeSpec := { name := "fnURIBack", fn := fun _ => fun
  | [d] => { results := [.lit (.bool true)], args := [d] }
  | _ => none }
def fnURIBackRow : OpenClaim := { program := "ytjpcdbopioblaaagreatdoor", sum := "3c1969ca0a5788f39538a38d305f9603e21f657a48785f8debb49995ecb761eb", func := "pub-strainer/laws.FnURIBack", spec := "fnURIBack", inPlace := ["math.Float64bits", "math.Float64frombits", "math.Float32bits", "internal/reflectlite.ValueOf", "internal/reflectlite.Swapper", "(internal/reflectlite.Value).Len", "math.archTrunc", "internal/abi.NoEscape", "internal/bytealg.MakeNoZero"], unfollowed := true, recurses := true, named := ["unicode/utf8.first", "unicode/utf8.acceptRanges", "net/url.table"], apart := false, laid := [("unicode/utf8.acceptRanges", laid_unicode_utf8_acceptRanges), ("net/url.table", laid_net_url_table), ("unicode/utf8.first", laid_unicode_utf8_first)] }
def FnURIBackSaid : Prop := fnURIBackRow.holds Tryz.pinned (OpenSpec.ofChange fnURIBackSpec)

/-- ITS FALSE NEIGHBOUR: 'it returns false'. Refute it at one input. -/
def fnURIBackWrong : ChangeSpec := { name := "fnURIBack", fn := fun _ => fun
  | [d] => { results := [.lit (.bool false)], args := [d] }
  | _ => none }
def FnURIBackWrongFalsely : Prop := fnURIBackRow.holds Tryz.pinned (OpenSpec.ofChange fnURIBackWrong)

/- THE SECOND FORM. 'bulk': how many values and letters a reading holds, each counted each time it is reached (what is shared counts as often as it is met; a slice's spare places count too). A statement '..UptoSaid' is the law's where the arguments, and the package variables that the reading takes, are together of bulk at most 1048576: NARROWER than '..Said'. Prove '..Said' where nothing that the law and all that it calls make is longer than what came in: it says more and counts as full. Else prove '..UptoSaid'. A law counts once. -/
mutual
def uptoBulk {H : Type} : DataW H → Nat
  | .lit (.string bytes) => bytes.length + 1
  | .lit _ => 1
  | .nil => 1
  | .ptr d => uptoBulk d + 1
  | .slice elems spare => uptoBulkAll elems + uptoBulkAll spare + 1
  | .agg parts => uptoBulkAll parts + 1
  | .iface _ d => uptoBulk d + 1
  | .map entries => uptoBulkEntries entries + 1
  | .held _ => 1
def uptoBulkAll {H : Type} : List (DataW H) → Nat
  | [] => 0
  | d :: r => uptoBulk d + uptoBulkAll r
def uptoBulkEntries {H : Type} : List (Lit × DataW H) → Nat
  | [] => 0
  | x :: r => uptoBulkEntry x + uptoBulkEntries r
def uptoBulkEntry {H : Type} : Lit × DataW H → Nat
  | (.string bytes, d) => bytes.length + uptoBulk d + 1
  | (_, d) => uptoBulk d + 1
 end
def uptoSmall : (H : Type) → List (DataW H) → Bool := fun _ ds => decide (uptoBulkAll ds ≤ 1048576)
def OpenSpec.upto (s : _root_.Go.ChangeSpec) : _root_.Go.OpenSpec := { _root_.Go.OpenSpec.ofChange s with cond := some uptoSmall }

/-- 'laws.FnReverse', WHERE WHAT IT READS IS OF BULK AT MOST 1048576: true; the input reads as it did. -/
def fnReverseUptoRow : OpenClaim := { program := "ytjpcdbopioblaaagreatdoor", sum := "3c1969ca0a5788f39538a38d305f9603e21f657a48785f8debb49995ecb761eb", func := "pub-strainer/laws.FnReverse", spec := "fnReverse", inPlace := ["math.archTrunc", "math.Float64bits", "math.Float64frombits"], unfollowed := true, recurses := true, named := ["unicode/utf8.first", "unicode/utf8.acceptRanges"], loops := true, apart := false, laid := [("unicode/utf8.acceptRanges", laid_unicode_utf8_acceptRanges), ("unicode/utf8.first", laid_unicode_utf8_first)], narrowed := true }
def FnReverseUptoSaid : Prop := fnReverseUptoRow.holds Tryz.pinned (OpenSpec.upto fnReverseSpec)

/-- 'laws.FnMarshalApart', WHERE WHAT IT READS IS OF BULK AT MOST 1048576: true; the input reads as it did. -/
def fnMarshalApartUptoRow : OpenClaim := { program := "ytjpcdbopioblaaagreatdoor", sum := "3c1969ca0a5788f39538a38d305f9603e21f657a48785f8debb49995ecb761eb", func := "pub-strainer/laws.FnMarshalApart", spec := "fnMarshalApart", inPlace := ["math.Float64bits", "math.Float64frombits", "math.Float32bits", "internal/reflectlite.ValueOf", "internal/reflectlite.Swapper", "(internal/reflectlite.Value).Len"], unfollowed := true, recurses := true, named := ["unicode/utf8.first", "unicode/utf8.acceptRanges"], loops := true, apart := false, laid := [("unicode/utf8.acceptRanges", laid_unicode_utf8_acceptRanges), ("unicode/utf8.first", laid_unicode_utf8_first)], narrowed := true }
def FnMarshalApartUptoSaid : Prop := fnMarshalApartUptoRow.holds Tryz.pinned (OpenSpec.upto fnMarshalApartSpec)

/-- 'laws.FnFormatHTML', WHERE WHAT IT READS IS OF BULK AT MOST 1048576: true; the input reads as it did. -/
def fnFormatHTMLUptoRow : OpenClaim := { program := "ytjpcdbopioblaaagreatdoor", sum := "3c1969ca0a5788f39538a38d305f9603e21f657a48785f8debb49995ecb761eb", func := "pub-strainer/laws.FnFormatHTML", spec := "fnFormatHTML", inPlace := ["math.Float64bits", "math.Float64frombits", "math.Float32bits", "internal/reflectlite.ValueOf", "internal/reflectlite.Swapper", "(internal/reflectlite.Value).Len", "math.archTrunc"], unfollowed := true, recurses := true, named := ["unicode/utf8.first", "unicode/utf8.acceptRanges"], loops := true, apart := false, laid := [("unicode/utf8.acceptRanges", laid_unicode_utf8_acceptRanges), ("unicode/utf8.first", laid_unicode_utf8_first)], narrowed := true }
def FnFormatHTMLUptoSaid : Prop := fnFormatHTMLUptoRow.holds Tryz.pinned (OpenSpec.upto fnFormatHTMLSpec)

/-- 'laws.FnURIBack', WHERE WHAT IT READS IS OF BULK AT MOST 1048576: true; the input reads as it did. -/
def fnURIBackUptoRow : OpenClaim := { program := "ytjpcdbopioblaaagreatdoor", sum := "3c1969ca0a5788f39538a38d305f9603e21f657a48785f8debb49995ecb761eb", func := "pub-strainer/laws.FnURIBack", spec := "fnURIBack", inPlace := ["math.Float64bits", "math.Float64frombits", "math.Float32bits", "internal/reflectlite.ValueOf", "internal/reflectlite.Swapper", "(internal/reflectlite.Value).Len", "math.archTrunc", "internal/abi.NoEscape", "internal/bytealg.MakeNoZero"], unfollowed := true, recurses := true, named := ["unicode/utf8.first", "unicode/utf8.acceptRanges", "net/url.table"], apart := false, laid := [("unicode/utf8.acceptRanges", laid_unicode_utf8_acceptRanges), ("net/url.table", laid_net_url_table), ("unicode/utf8.first", laid_unicode_utf8_first)], narrowed := true }
def FnURIBackUptoSaid : Prop := fnURIBackUptoRow.holds Tryz.pinned (OpenSpec.upto fnURIBackSpec)

end Rows
end Go.Proofs.YtjpcdbopioblaaaGreatDoor
