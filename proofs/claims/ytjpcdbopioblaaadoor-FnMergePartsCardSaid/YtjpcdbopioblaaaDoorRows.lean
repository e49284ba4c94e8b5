/-
  NARROWER THAN 'FOR EVERY INPUT', by the rows' own cells (each row's printed sentence says how): FnTypeOf: loops, laid · FnQuote: laid · FnFlattenParts: loops, laid · FnIndexList: loops, laid · FnMergeParts: loops, laid · FnRTrimStr: laid · FnNegateTwice: loops, laid.
  DERIVED. THE GIVEN ROWS OF THIS SEAT. 7 by the template 'for every input the law returns true; each argument reads behind the call as it read before'; 0 by the template 'total and deterministic' (their statements: YtjpcdbopioblaaaDoorTotals.lean).
  GIVEN WITH THE SEED: the statements are not yours to turn. If you find one false, say at which input.
  Laid BY PROGRAM, IN A SANDBOX (cutbox-rows.mjs): the forced cells as the released guide's own fill.sh prints them over the translation f4512551ec857abb… (all of the seat's roots in one cut). By AI agents, Wed Nov 11 2026. No macro, syntax, notation, axiom, sorry.
-/
import Derived.Test.YtjpcdbopioblaaaDoorChecked
import GoSem.PinnedTables
import GoSem.Claim
import GoSem.ClaimJoined
import GoSem.ClaimMapViews
import Derived.JoinedTies
import Derived.KernelRfl
namespace Go.Proofs.YtjpcdbopioblaaaDoor
/- THE CELL 'sum', in the pinned program and in every row, IS THE sha256 OF THE DUMP (.gsa) THAT YtjpcdbopioblaaaDoorProg.lean LOADS. Nothing in Lean hashes anything: it is a label: what it is worth is what the hold of that sum in a sandbox is worth. -/
noncomputable def Tryd.pinned : Pinned := { name := "ytjpcdbopioblaaadoor", sum := "f4512551ec857abbea923dcc70cca9eae1e6379d85481b969037852a2823cfbd", checked := Tryd.checked }
namespace Rows
def none {H : Type} : Left H := { results := [], args := [] }

/- WHAT THE LISTED PACKAGE-LEVEL VARIABLES READ AS WHEN THE CALL BEGINS. Each datum BY PROGRAM (the guide's laid-datum.mjs) off the statement by which the dump's own 'gosem.cut.vars' lays the variable. In a bare row this is a premise. The card (YtjpcdbopioblaaaDoorCards.lean) ties it to the program's text. -/
def laid_unicode_utf8_acceptRanges {H : Type} : DataW H := .agg [.agg [.lit (.int .u8 128), .lit (.int .u8 191)], .agg [.lit (.int .u8 160), .lit (.int .u8 191)], .agg [.lit (.int .u8 128), .lit (.int .u8 159)], .agg [.lit (.int .u8 144), .lit (.int .u8 191)], .agg [.lit (.int .u8 128), .lit (.int .u8 143)], .agg [.lit (.int .u8 0), .lit (.int .u8 0)], .agg [.lit (.int .u8 0), .lit (.int .u8 0)], .agg [.lit (.int .u8 0), .lit (.int .u8 0)], .agg [.lit (.int .u8 0), .lit (.int .u8 0)], .agg [.lit (.int .u8 0), .lit (.int .u8 0)], .agg [.lit (.int .u8 0), .lit (.int .u8 0)], .agg [.lit (.int .u8 0), .lit (.int .u8 0)], .agg [.lit (.int .u8 0), .lit (.int .u8 0)], .agg [.lit (.int .u8 0), .lit (.int .u8 0)], .agg [.lit (.int .u8 0), .lit (.int .u8 0)], .agg [.lit (.int .u8 0), .lit (.int .u8 0)]]
/-- One of Go's own tables, pinned by name: the form's constant. -/
def laid_unicode_utf8_first : DataW Unit := Go.Pinned.utf8First

/-- 'laws.FnTypeOf': WHATEVER THE INPUT: true; the input reads as it did. -/
def fnTypeOfSpec : ChangeSpec := { name := "fnTypeOf", fn := fun _ => fun
  | [d] => { results := [.lit (.bool true)], args := [d] }
  | _ => none }
def fnTypeOfRow : OpenClaim := { program := "ytjpcdbopioblaaadoor", sum := "f4512551ec857abbea923dcc70cca9eae1e6379d85481b969037852a2823cfbd", func := "pub-strainer/laws.FnTypeOf", spec := "fnTypeOf", recurses := true, named := ["unicode/utf8.first", "unicode/utf8.acceptRanges"], loops := true, apart := false, laid := [("unicode/utf8.acceptRanges", laid_unicode_utf8_acceptRanges), ("unicode/utf8.first", laid_unicode_utf8_first)] }
def FnTypeOfSaid : Prop := fnTypeOfRow.holds Tryd.pinned (OpenSpec.ofChange fnTypeOfSpec)

/-- ITS FALSE NEIGHBOUR: 'it returns false'. Refute it at one input. -/
def fnTypeOfWrong : ChangeSpec := { name := "fnTypeOf", fn := fun _ => fun
  | [d] => { results := [.lit (.bool false)], args := [d] }
  | _ => none }
def FnTypeOfWrongFalsely : Prop := fnTypeOfRow.holds Tryd.pinned (OpenSpec.ofChange fnTypeOfWrong)

/-- 'laws.FnQuote': WHATEVER THE INPUT: true; the input reads as it did. -/
def fnQuoteSpec : ChangeSpec := { name := "fnQuote", fn := fun _ => fun
  | [d] => { results := [.lit (.bool true)], args := [d] }
  | _ => none }
def fnQuoteRow : OpenClaim := { program := "ytjpcdbopioblaaadoor", sum := "f4512551ec857abbea923dcc70cca9eae1e6379d85481b969037852a2823cfbd", func := "pub-strainer/laws.FnQuote", spec := "fnQuote", unfollowed := true, recurses := true, named := ["unicode/utf8.first", "unicode/utf8.acceptRanges"], apart := false, laid := [("unicode/utf8.acceptRanges", laid_unicode_utf8_acceptRanges), ("unicode/utf8.first", laid_unicode_utf8_first)] }
def FnQuoteSaid : Prop := fnQuoteRow.holds Tryd.pinned (OpenSpec.ofChange fnQuoteSpec)

/-- ITS FALSE NEIGHBOUR: 'it returns false'. Refute it at one input. -/
def fnQuoteWrong : ChangeSpec := { name := "fnQuote", fn := fun _ => fun
  | [d] => { results := [.lit (.bool false)], args := [d] }
  | _ => none }
def FnQuoteWrongFalsely : Prop := fnQuoteRow.holds Tryd.pinned (OpenSpec.ofChange fnQuoteWrong)

/-- 'laws.FnFlattenParts': WHATEVER THE INPUT: true; the input reads as it did. -/
def fnFlattenPartsSpec : ChangeSpec := { name := "fnFlattenParts", fn := fun _ => fun
  | [d1, d2, d3] => { results := [.lit (.bool true)], args := [d1, d2, d3] }
  | _ => none }
def fnFlattenPartsRow : OpenClaim := { program := "ytjpcdbopioblaaadoor", sum := "f4512551ec857abbea923dcc70cca9eae1e6379d85481b969037852a2823cfbd", func := "pub-strainer/laws.FnFlattenParts", spec := "fnFlattenParts", inPlace := ["math.archTrunc", "math.Float64bits", "math.Float64frombits"], unfollowed := true, recurses := true, named := ["unicode/utf8.first", "unicode/utf8.acceptRanges"], loops := true, apart := false, laid := [("unicode/utf8.acceptRanges", laid_unicode_utf8_acceptRanges), ("unicode/utf8.first", laid_unicode_utf8_first)] }
def FnFlattenPartsSaid : Prop := fnFlattenPartsRow.holds Tryd.pinned (OpenSpec.ofChange fnFlattenPartsSpec)

/-- ITS FALSE NEIGHBOUR: 'it returns false'. Refute it at one input. -/
def fnFlattenPartsWrong : ChangeSpec := { name := "fnFlattenParts", fn := fun _ => fun
  | [d1, d2, d3] => { results := [.lit (.bool false)], args := [d1, d2, d3] }
  | _ => none }
def FnFlattenPartsWrongFalsely : Prop := fnFlattenPartsRow.holds Tryd.pinned (OpenSpec.ofChange fnFlattenPartsWrong)

/-- 'laws.FnIndexList': WHATEVER THE INPUT: true; the input reads as it did. -/
def fnIndexListSpec : ChangeSpec := { name := "fnIndexList", fn := fun _ => fun
  | [d1, d2] => { results := [.lit (.bool true)], args := [d1, d2] }
  | _ => none }
def fnIndexListRow : OpenClaim := { program := "ytjpcdbopioblaaadoor", sum := "f4512551ec857abbea923dcc70cca9eae1e6379d85481b969037852a2823cfbd", func := "pub-strainer/laws.FnIndexList", spec := "fnIndexList", inPlace := ["math.archTrunc", "math.Float64bits", "math.Float64frombits"], unfollowed := true, recurses := true, named := ["unicode/utf8.first", "unicode/utf8.acceptRanges"], loops := true, apart := false, laid := [("unicode/utf8.acceptRanges", laid_unicode_utf8_acceptRanges), ("unicode/utf8.first", laid_unicode_utf8_first)] }
def FnIndexListSaid : Prop := fnIndexListRow.holds Tryd.pinned (OpenSpec.ofChange fnIndexListSpec)

/-- ITS FALSE NEIGHBOUR: 'it returns false'. Refute it at one input. -/
def fnIndexListWrong : ChangeSpec := { name := "fnIndexList", fn := fun _ => fun
  | [d1, d2] => { results := [.lit (.bool false)], args := [d1, d2] }
  | _ => none }
def FnIndexListWrongFalsely : Prop := fnIndexListRow.holds Tryd.pinned (OpenSpec.ofChange fnIndexListWrong)

/-- 'laws.FnMergeParts': WHATEVER THE INPUT: true; the input reads as it did. -/
def fnMergePartsSpec : ChangeSpec := { name := "fnMergeParts", fn := fun _ => fun
  | [d1, d2] => { results := [.lit (.bool true)], args := [d1, d2] }
  | _ => none }
def fnMergePartsRow : OpenClaim := { program := "ytjpcdbopioblaaadoor", sum := "f4512551ec857abbea923dcc70cca9eae1e6379d85481b969037852a2823cfbd", func := "pub-strainer/laws.FnMergeParts", spec := "fnMergeParts", inPlace := ["math.archTrunc", "math.Float64bits", "math.Float64frombits"], unfollowed := true, recurses := true, named := ["unicode/utf8.first", "unicode/utf8.acceptRanges"], loops := true, apart := false, laid := [("unicode/utf8.acceptRanges", laid_unicode_utf8_acceptRanges), ("unicode/utf8.first", laid_unicode_utf8_first)] }
def FnMergePartsSaid : Prop := fnMergePartsRow.holds Tryd.pinned (OpenSpec.ofChange fnMergePartsSpec)

/-- ITS FALSE NEIGHBOUR: 'it returns false'. Refute it at one input. -/
def fnMergePartsWrong : ChangeSpec := { name := "fnMergeParts", fn := fun _ => fun
  | [d1, d2] => { results := [.lit (.bool false)], args := [d1, d2] }
  | _ => none }
def FnMergePartsWrongFalsely : Prop := fnMergePartsRow.holds Tryd.pinned (OpenSpec.ofChange fnMergePartsWrong)

/-- 'laws.FnRTrimStr': WHATEVER THE INPUT: true; the input reads as it did. -/
def fnRTrimStrSpec : ChangeSpec := { name := "fnRTrimStr", fn := fun _ => fun
  | [d1, d2] => { results := [.lit (.bool true)], args := [d1, d2] }
  | _ => none }
def fnRTrimStrRow : OpenClaim := { program := "ytjpcdbopioblaaadoor", sum := "f4512551ec857abbea923dcc70cca9eae1e6379d85481b969037852a2823cfbd", func := "pub-strainer/laws.FnRTrimStr", spec := "fnRTrimStr", inPlace := ["math.archTrunc", "math.Float64bits", "math.Float64frombits"], unfollowed := true, recurses := true, named := ["unicode/utf8.first", "unicode/utf8.acceptRanges"], apart := false, laid := [("unicode/utf8.acceptRanges", laid_unicode_utf8_acceptRanges), ("unicode/utf8.first", laid_unicode_utf8_first)] }
def FnRTrimStrSaid : Prop := fnRTrimStrRow.holds Tryd.pinned (OpenSpec.ofChange fnRTrimStrSpec)

/-- ITS FALSE NEIGHBOUR: 'it returns false'. Refute it at one input. -/
def fnRTrimStrWrong : ChangeSpec := { name := "fnRTrimStr", fn := fun _ => fun
  | [d1, d2] => { results := [.lit (.bool false)], args := [d1, d2] }
  | _ => none }
def FnRTrimStrWrongFalsely : Prop := fnRTrimStrRow.holds Tryd.pinned (OpenSpec.ofChange fnRTrimStrWrong)

/-- 'laws.FnNegateTwice': WHATEVER THE INPUT: true; the input reads as it did. -/
def fnNegateTwiceSpec : ChangeSpec := { name := "fnNegateTwice", fn := fun _ => fun
  | [d] => { results := [.lit (.bool true)], args := [d] }
  | _ => none }
def fnNegateTwiceRow : OpenClaim := { program := "ytjpcdbopioblaaadoor", sum := "f4512551ec857abbea923dcc70cca9eae1e6379d85481b969037852a2823cfbd", func := "pub-strainer/laws.FnNegateTwice", spec := "fnNegateTwice", inPlace := ["math.archTrunc", "math.Float64bits", "math.Float64frombits"], unfollowed := true, recurses := true, named := ["unicode/utf8.first", "unicode/utf8.acceptRanges"], loops := true, apart := false, laid := [("unicode/utf8.acceptRanges", laid_unicode_utf8_acceptRanges), ("unicode/utf8.first", laid_unicode_utf8_first)] }
def FnNegateTwiceSaid : Prop := fnNegateTwiceRow.holds Tryd.pinned (OpenSpec.ofChange fnNegateTwiceSpec)

/-- ITS FALSE NEIGHBOUR: 'it returns false'. Refute it at one input. -/
def fnNegateTwiceWrong : ChangeSpec := { name := "fnNegateTwice", fn := fun _ => fun
  | [d] => { results := [.lit (.bool false)], args := [d] }
  | _ => none }
def FnNegateTwiceWrongFalsely : Prop := fnNegateTwiceRow.holds Tryd.pinned (OpenSpec.ofChange fnNegateTwiceWrong)

/- THE SECOND FORM. 'bulk': how many values and letters a reading holds, each counted each time it is reached (what is shared counts as often as it is met; a slice's spare places count too). A statement '..UptoSaid' is the law's where the arguments, and the package variables that the reading takes, are together of bulk at most 1048576: NARROWER than '..Said'. Prove '..Said' where nothing that the law and all that it calls make is longer than what came in: it says more and counts as full. Else prove '..UptoSaid'. A law counts once. -/
mutual
def uptoBulk {H : Type} : DataW H → Nat
  | .lit (.string bytes) => bytes.length + 1
  | .lit _ => 1
  | .nil => 1
  | .ptr d => uptoBulk d + 1
  | .slice elems spare => uptoBulkAll elems + uptoBulkAll spare + 1
  | .agg parts => uptoBulkAll parts + 1
  | .iface _ d => uptoBulk d + 1
  | .map entries => uptoBulkEntries entries + 1
  | .held _ => 1
def uptoBulkAll {H : Type} : List (DataW H) → Nat
  | [] => 0
  | d :: r => uptoBulk d + uptoBulkAll r
def uptoBulkEntries {H : Type} : List (Lit × DataW H) → Nat
  | [] => 0
  | x :: r => uptoBulkEntry x + uptoBulkEntries r
def uptoBulkEntry {H : Type} : Lit × DataW H → Nat
  | (.string bytes, d) => bytes.length + uptoBulk d + 1
  | (_, d) => uptoBulk d + 1
 end
def uptoSmall : (H : Type) → List (DataW H) → Bool := fun _ ds => decide (uptoBulkAll ds ≤ 1048576)
def OpenSpec.upto (s : _root_.Go.ChangeSpec) : _root_.Go.OpenSpec := { _root_.Go.OpenSpec.ofChange s with cond := some uptoSmall }

/-- 'laws.FnTypeOf', WHERE WHAT IT READS IS OF BULK AT MOST 1048576: true; the input reads as it did. -/
def fnTypeOfUptoRow : OpenClaim := { program := "ytjpcdbopioblaaadoor", sum := "f4512551ec857abbea923dcc70cca9eae1e6379d85481b969037852a2823cfbd", func := "pub-strainer/laws.FnTypeOf", spec := "fnTypeOf", recurses := true, named := ["unicode/utf8.first", "unicode/utf8.acceptRanges"], loops := true, apart := false, laid := [("unicode/utf8.acceptRanges", laid_unicode_utf8_acceptRanges), ("unicode/utf8.first", laid_unicode_utf8_first)], narrowed := true }
def FnTypeOfUptoSaid : Prop := fnTypeOfUptoRow.holds Tryd.pinned (OpenSpec.upto fnTypeOfSpec)

/-- 'laws.FnQuote', WHERE WHAT IT READS IS OF BULK AT MOST 1048576: true; the input reads as it did. -/
def fnQuoteUptoRow : OpenClaim := { program := "ytjpcdbopioblaaadoor", sum := "f4512551ec857abbea923dcc70cca9eae1e6379d85481b969037852a2823cfbd", func := "pub-strainer/laws.FnQuote", spec := "fnQuote", unfollowed := true, recurses := true, named := ["unicode/utf8.first", "unicode/utf8.acceptRanges"], apart := false, laid := [("unicode/utf8.acceptRanges", laid_unicode_utf8_acceptRanges), ("unicode/utf8.first", laid_unicode_utf8_first)], narrowed := true }
def FnQuoteUptoSaid : Prop := fnQuoteUptoRow.holds Tryd.pinned (OpenSpec.upto fnQuoteSpec)

/-- 'laws.FnFlattenParts', WHERE WHAT IT READS IS OF BULK AT MOST 1048576: true; the input reads as it did. -/
def fnFlattenPartsUptoRow : OpenClaim := { program := "ytjpcdbopioblaaadoor", sum := "f4512551ec857abbea923dcc70cca9eae1e6379d85481b969037852a2823cfbd", func := "pub-strainer/laws.FnFlattenParts", spec := "fnFlattenParts", inPlace := ["math.archTrunc", "math.Float64bits", "math.Float64frombits"], unfollowed := true, recurses := true, named := ["unicode/utf8.first", "unicode/utf8.acceptRanges"], loops := true, apart := false, laid := [("unicode/utf8.acceptRanges", laid_unicode_utf8_acceptRanges), ("unicode/utf8.first", laid_unicode_utf8_first)], narrowed := true }
def FnFlattenPartsUptoSaid : Prop := fnFlattenPartsUptoRow.holds Tryd.pinned (OpenSpec.upto fnFlattenPartsSpec)

/-- 'laws.FnIndexList', WHERE WHAT IT READS IS OF BULK AT MOST 1048576: true; the input reads as it did. -/
def fnIndexListUptoRow : OpenClaim := { program := "ytjpcdbopioblaaadoor", sum := "f4512551ec857abbea923dcc70cca9eae1e6379d85481b969037852a2823cfbd", func := "pub-strainer/laws.FnIndexList", spec := "fnIndexList", inPlace := ["math.archTrunc", "math.Float64bits", "math.Float64frombits"], unfollowed := true, recurses := true, named := ["unicode/utf8.first", "unicode/utf8.acceptRanges"], loops := true, apart := false, laid := [("unicode/utf8.acceptRanges", laid_unicode_utf8_acceptRanges), ("unicode/utf8.first", laid_unicode_utf8_first)], narrowed := true }
def FnIndexListUptoSaid : Prop := fnIndexListUptoRow.holds Tryd.pinned (OpenSpec.upto fnIndexListSpec)

/-- 'laws.FnMergeParts', WHERE WHAT IT READS IS OF BULK AT MOST 1048576: true; the input reads as it did. -/
def fnMergePartsUptoRow : OpenClaim := { program := "ytjpcdbopioblaaadoor", sum := "f4512551ec857abbea923dcc70cca9eae1e6379d85481b969037852a2823cfbd", func := "pub-strainer/laws.FnMergeParts", spec := "fnMergeParts", inPlace := ["math.archTrunc", "math.Float64bits", "math.Float64frombits"], unfollowed := true, recurses := true, named := ["unicode/utf8.first", "unicode/utf8.acceptRanges"], loops := true, apart := false, laid := [("unicode/utf8.acceptRanges", laid_unicode_utf8_acceptRanges), ("unicode/utf8.first", laid_unicode_utf8_first)], narrowed := true }
def FnMergePartsUptoSaid : Prop := fnMergePartsUptoRow.holds Tryd.pinned (OpenSpec.upto fnMergePartsSpec)

/-- 'laws.FnRTrimStr', WHERE WHAT IT READS IS OF BULK AT MOST 1048576: true; the input reads as it did. -/
def fnRTrimStrUptoRow : OpenClaim := { program := "ytjpcdbopioblaaadoor", sum := "f4512551ec857abbea923dcc70cca9eae1e6379d85481b969037852a2823cfbd", func := "pub-strainer/laws.FnRTrimStr", spec := "fnRTrimStr", inPlace := ["math.archTrunc", "math.Float64bits", "math.Float64frombits"], unfollowed := true, recurses := true, named := ["unicode/utf8.first", "unicode/utf8.acceptRanges"], apart := false, laid := [("unicode/utf8.acceptRanges", laid_unicode_utf8_acceptRanges), ("unicode/utf8.first", laid_unicode_utf8_first)], narrowed := true }
def FnRTrimStrUptoSaid : Prop := fnRTrimStrUptoRow.holds Tryd.pinned (OpenSpec.upto fnRTrimStrSpec)

/-- 'laws.FnNegateTwice', WHERE WHAT IT READS IS OF BULK AT MOST 1048576: true; the input reads as it did. -/
def fnNegateTwiceUptoRow : OpenClaim := { program := "ytjpcdbopioblaaadoor", sum := "f4512551ec857abbea923dcc70cca9eae1e6379d85481b969037852a2823cfbd", func := "pub-strainer/laws.FnNegateTwice", spec := "fnNegateTwice", inPlace := ["math.archTrunc", "math.Float64bits", "math.Float64frombits"], unfollowed := true, recurses := true, named := ["unicode/utf8.first", "unicode/utf8.acceptRanges"], loops := true, apart := false, laid := [("unicode/utf8.acceptRanges", laid_unicode_utf8_acceptRanges), ("unicode/utf8.first", laid_unicode_utf8_first)], narrowed := true }
def FnNegateTwiceUptoSaid : Prop := fnNegateTwiceUptoRow.holds Tryd.pinned (OpenSpec.upto fnNegateTwiceSpec)

end Rows
end Go.Proofs.YtjpcdbopioblaaaDoor
