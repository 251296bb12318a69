/-
  NARROWER THAN 'FOR EVERY INPUT', by the rows' own cells (each row's printed sentence says how): FnReverse: laid · FnReverseJoined: laid · FnScrub: laid · FnWidth: laid · FnSliceParts: laid · FnInsertBack: laid · FnLeftJustify: laid · FnCenter: laid · FnWordSplit: laid · FnFirst: laid · FnJustifyLen: laid · FnExpandTabs: laid · FnSwapCase: laid · FnMeasureSays: laid.
  DERIVED. THE GIVEN ROWS OF THIS SEAT. 14 by the template 'for every input the law returns true; each argument reads behind the call as it read before'; 0 by the template 'total and deterministic' (their statements: YtodablchamiaeaaDoorTotals.lean).
  GIVEN WITH THE SEED: the statements are not yours to turn. If you find one false, say at which input.
  Laid BY PROGRAM, IN A SANDBOX (cutbox-rows.mjs): the forced cells as the released guide's own fill.sh prints them over the translation 3f3342fa5aaa064a… (all of the seat's roots in one cut). By AI agents, Wed Nov 11 2026. No macro, syntax, notation, axiom, sorry.
-/
import Derived.Test.YtodablchamiaeaaDoorChecked
import GoSem.PinnedTables
import GoSem.Claim
import GoSem.ClaimJoined
import GoSem.ClaimMapViews
import Derived.JoinedTies
import Derived.KernelRfl
namespace Go.Proofs.YtodablchamiaeaaDoor
/- THE CELL 'sum', in the pinned program and in every row, IS THE sha256 OF THE DUMP (.gsa) THAT YtodablchamiaeaaDoorProg.lean LOADS. Nothing in Lean hashes anything: it is a label: what it is worth is what the hold of that sum in a sandbox is worth. -/
noncomputable def Tryd.pinned : Pinned := { name := "ytodablchamiaeaadoor", sum := "3f3342fa5aaa064aed5aebcf13d3a4fc1dfe75ee6aceb84cffda57bde32b6b6b", checked := Tryd.checked }
namespace Rows
def none {H : Type} : Left H := { results := [], args := [] }

/- WHAT THE LISTED PACKAGE-LEVEL VARIABLES READ AS WHEN THE CALL BEGINS. Each datum BY PROGRAM (the guide's laid-datum.mjs) off the statement by which the dump's own 'gosem.cut.vars' lays the variable. In a bare row this is a premise. The card (YtodablchamiaeaaDoorCards.lean) ties it to the program's text. -/
def laid_unicode_utf8_acceptRanges {H : Type} : DataW H := .agg [.agg [.lit (.int .u8 128), .lit (.int .u8 191)], .agg [.lit (.int .u8 160), .lit (.int .u8 191)], .agg [.lit (.int .u8 128), .lit (.int .u8 159)], .agg [.lit (.int .u8 144), .lit (.int .u8 191)], .agg [.lit (.int .u8 128), .lit (.int .u8 143)], .agg [.lit (.int .u8 0), .lit (.int .u8 0)], .agg [.lit (.int .u8 0), .lit (.int .u8 0)], .agg [.lit (.int .u8 0), .lit (.int .u8 0)], .agg [.lit (.int .u8 0), .lit (.int .u8 0)], .agg [.lit (.int .u8 0), .lit (.int .u8 0)], .agg [.lit (.int .u8 0), .lit (.int .u8 0)], .agg [.lit (.int .u8 0), .lit (.int .u8 0)], .agg [.lit (.int .u8 0), .lit (.int .u8 0)], .agg [.lit (.int .u8 0), .lit (.int .u8 0)], .agg [.lit (.int .u8 0), .lit (.int .u8 0)], .agg [.lit (.int .u8 0), .lit (.int .u8 0)]]
/-- One of Go's own tables, pinned by name: the form's constant. -/
def laid_unicode_utf8_first : DataW Unit := Go.Pinned.utf8First
def laid_unicode_properties {H : Type} : DataW H := .agg [.lit (.int .u8 1), .lit (.int .u8 1), .lit (.int .u8 1), .lit (.int .u8 1), .lit (.int .u8 1), .lit (.int .u8 1), .lit (.int .u8 1), .lit (.int .u8 1), .lit (.int .u8 1), .lit (.int .u8 1), .lit (.int .u8 1), .lit (.int .u8 1), .lit (.int .u8 1), .lit (.int .u8 1), .lit (.int .u8 1), .lit (.int .u8 1), .lit (.int .u8 1), .lit (.int .u8 1), .lit (.int .u8 1), .lit (.int .u8 1), .lit (.int .u8 1), .lit (.int .u8 1), .lit (.int .u8 1), .lit (.int .u8 1), .lit (.int .u8 1), .lit (.int .u8 1), .lit (.int .u8 1), .lit (.int .u8 1), .lit (.int .u8 1), .lit (.int .u8 1), .lit (.int .u8 1), .lit (.int .u8 1), .lit (.int .u8 144), .lit (.int .u8 130), .lit (.int .u8 130), .lit (.int .u8 130), .lit (.int .u8 136), .lit (.int .u8 130), .lit (.int .u8 130), .lit (.int .u8 130), .lit (.int .u8 130), .lit (.int .u8 130), .lit (.int .u8 130), .lit (.int .u8 136), .lit (.int .u8 130), .lit (.int .u8 130), .lit (.int .u8 130), .lit (.int .u8 130), .lit (.int .u8 132), .lit (.int .u8 132), .lit (.int .u8 132), .lit (.int .u8 132), .lit (.int .u8 132), .lit (.int .u8 132), .lit (.int .u8 132), .lit (.int .u8 132), .lit (.int .u8 132), .lit (.int .u8 132), .lit (.int .u8 130), .lit (.int .u8 130), .lit (.int .u8 136), .lit (.int .u8 136), .lit (.int .u8 136), .lit (.int .u8 130), .lit (.int .u8 130), .lit (.int .u8 160), .lit (.int .u8 160), .lit (.int .u8 160), .lit (.int .u8 160), .lit (.int .u8 160), .lit (.int .u8 160), .lit (.int .u8 160), .lit (.int .u8 160), .lit (.int .u8 160), .lit (.int .u8 160), .lit (.int .u8 160), .lit (.int .u8 160), .lit (.int .u8 160), .lit (.int .u8 160), .lit (.int .u8 160), .lit (.int .u8 160), .lit (.int .u8 160), .lit (.int .u8 160), .lit (.int .u8 160), .lit (.int .u8 160), .lit (.int .u8 160), .lit (.int .u8 160), .lit (.int .u8 160), .lit (.int .u8 160), .lit (.int .u8 160), .lit (.int .u8 160), .lit (.int .u8 130), .lit (.int .u8 130), .lit (.int .u8 130), .lit (.int .u8 136), .lit (.int .u8 130), .lit (.int .u8 136), .lit (.int .u8 192), .lit (.int .u8 192), .lit (.int .u8 192), .lit (.int .u8 192), .lit (.int .u8 192), .lit (.int .u8 192), .lit (.int .u8 192), .lit (.int .u8 192), .lit (.int .u8 192), .lit (.int .u8 192), .lit (.int .u8 192), .lit (.int .u8 192), .lit (.int .u8 192), .lit (.int .u8 192), .lit (.int .u8 192), .lit (.int .u8 192), .lit (.int .u8 192), .lit (.int .u8 192), .lit (.int .u8 192), .lit (.int .u8 192), .lit (.int .u8 192), .lit (.int .u8 192), .lit (.int .u8 192), .lit (.int .u8 192), .lit (.int .u8 192), .lit (.int .u8 192), .lit (.int .u8 130), .lit (.int .u8 136), .lit (.int .u8 130), .lit (.int .u8 136), .lit (.int .u8 1), .lit (.int .u8 1), .lit (.int .u8 1), .lit (.int .u8 1), .lit (.int .u8 1), .lit (.int .u8 1), .lit (.int .u8 1), .lit (.int .u8 1), .lit (.int .u8 1), .lit (.int .u8 1), .lit (.int .u8 1), .lit (.int .u8 1), .lit (.int .u8 1), .lit (.int .u8 1), .lit (.int .u8 1), .lit (.int .u8 1), .lit (.int .u8 1), .lit (.int .u8 1), .lit (.int .u8 1), .lit (.int .u8 1), .lit (.int .u8 1), .lit (.int .u8 1), .lit (.int .u8 1), .lit (.int .u8 1), .lit (.int .u8 1), .lit (.int .u8 1), .lit (.int .u8 1), .lit (.int .u8 1), .lit (.int .u8 1), .lit (.int .u8 1), .lit (.int .u8 1), .lit (.int .u8 1), .lit (.int .u8 1), .lit (.int .u8 16), .lit (.int .u8 130), .lit (.int .u8 136), .lit (.int .u8 136), .lit (.int .u8 136), .lit (.int .u8 136), .lit (.int .u8 136), .lit (.int .u8 130), .lit (.int .u8 136), .lit (.int .u8 136), .lit (.int .u8 224), .lit (.int .u8 130), .lit (.int .u8 136), .lit (.int .u8 0), .lit (.int .u8 136), .lit (.int .u8 136), .lit (.int .u8 136), .lit (.int .u8 136), .lit (.int .u8 132), .lit (.int .u8 132), .lit (.int .u8 136), .lit (.int .u8 192), .lit (.int .u8 130), .lit (.int .u8 130), .lit (.int .u8 136), .lit (.int .u8 132), .lit (.int .u8 224), .lit (.int .u8 130), .lit (.int .u8 132), .lit (.int .u8 132), .lit (.int .u8 132), .lit (.int .u8 130), .lit (.int .u8 160), .lit (.int .u8 160), .lit (.int .u8 160), .lit (.int .u8 160), .lit (.int .u8 160), .lit (.int .u8 160), .lit (.int .u8 160), .lit (.int .u8 160), .lit (.int .u8 160), .lit (.int .u8 160), .lit (.int .u8 160), .lit (.int .u8 160), .lit (.int .u8 160), .lit (.int .u8 160), .lit (.int .u8 160), .lit (.int .u8 160), .lit (.int .u8 160), .lit (.int .u8 160), .lit (.int .u8 160), .lit (.int .u8 160), .lit (.int .u8 160), .lit (.int .u8 160), .lit (.int .u8 160), .lit (.int .u8 136), .lit (.int .u8 160), .lit (.int .u8 160), .lit (.int .u8 160), .lit (.int .u8 160), .lit (.int .u8 160), .lit (.int .u8 160), .lit (.int .u8 160), .lit (.int .u8 192), .lit (.int .u8 192), .lit (.int .u8 192), .lit (.int .u8 192), .lit (.int .u8 192), .lit (.int .u8 192), .lit (.int .u8 192), .lit (.int .u8 192), .lit (.int .u8 192), .lit (.int .u8 192), .lit (.int .u8 192), .lit (.int .u8 192), .lit (.int .u8 192), .lit (.int .u8 192), .lit (.int .u8 192), .lit (.int .u8 192), .lit (.int .u8 192), .lit (.int .u8 192), .lit (.int .u8 192), .lit (.int .u8 192), .lit (.int .u8 192), .lit (.int .u8 192), .lit (.int .u8 192), .lit (.int .u8 192), .lit (.int .u8 136), .lit (.int .u8 192), .lit (.int .u8 192), .lit (.int .u8 192), .lit (.int .u8 192), .lit (.int .u8 192), .lit (.int .u8 192), .lit (.int .u8 192), .lit (.int .u8 192)]
/-- One of Go's own tables, pinned by name: the form's constant. -/
def laid_unicode_Letter : DataW Unit := Go.Pinned.letter
/-- One of Go's own tables, pinned by name: the form's constant. -/
def laid_unicode_CaseRanges : DataW Unit := Go.Pinned.caseRanges
/-- One of Go's own tables, pinned by name: the form's constant. -/
def laid_unicode_Lower : DataW Unit := Go.Pinned.lower
/-- One of Go's own tables, pinned by name: the form's constant. -/
def laid_unicode_Upper : DataW Unit := Go.Pinned.upper

/-- 'laws.FnReverse': WHATEVER THE INPUT: true; the input reads as it did. -/
def fnReverseSpec : ChangeSpec := { name := "fnReverse", fn := fun _ => fun
  | [d] => { results := [.lit (.bool true)], args := [d] }
  | _ => none }
def fnReverseRow : OpenClaim := { program := "ytodablchamiaeaadoor", sum := "3f3342fa5aaa064aed5aebcf13d3a4fc1dfe75ee6aceb84cffda57bde32b6b6b", func := "pub-pencraft/laws.FnReverse", spec := "fnReverse", named := ["unicode/utf8.first", "unicode/utf8.acceptRanges"], apart := false, laid := [("unicode/utf8.acceptRanges", laid_unicode_utf8_acceptRanges), ("unicode/utf8.first", laid_unicode_utf8_first)] }
def FnReverseSaid : Prop := fnReverseRow.holds Tryd.pinned (OpenSpec.ofChange fnReverseSpec)

/-- ITS FALSE NEIGHBOUR: 'it returns false'. Refute it at one input. -/
def fnReverseWrong : ChangeSpec := { name := "fnReverse", fn := fun _ => fun
  | [d] => { results := [.lit (.bool false)], args := [d] }
  | _ => none }
def FnReverseWrongFalsely : Prop := fnReverseRow.holds Tryd.pinned (OpenSpec.ofChange fnReverseWrong)

/-- 'laws.FnReverseJoined': WHATEVER THE INPUT: true; the input reads as it did. -/
def fnReverseJoinedSpec : ChangeSpec := { name := "fnReverseJoined", fn := fun _ => fun
  | [d1, d2] => { results := [.lit (.bool true)], args := [d1, d2] }
  | _ => none }
def fnReverseJoinedRow : OpenClaim := { program := "ytodablchamiaeaadoor", sum := "3f3342fa5aaa064aed5aebcf13d3a4fc1dfe75ee6aceb84cffda57bde32b6b6b", func := "pub-pencraft/laws.FnReverseJoined", spec := "fnReverseJoined", named := ["unicode/utf8.first", "unicode/utf8.acceptRanges"], apart := false, laid := [("unicode/utf8.acceptRanges", laid_unicode_utf8_acceptRanges), ("unicode/utf8.first", laid_unicode_utf8_first)] }
def FnReverseJoinedSaid : Prop := fnReverseJoinedRow.holds Tryd.pinned (OpenSpec.ofChange fnReverseJoinedSpec)

/-- ITS FALSE NEIGHBOUR: 'it returns false'. Refute it at one input. -/
def fnReverseJoinedWrong : ChangeSpec := { name := "fnReverseJoined", fn := fun _ => fun
  | [d1, d2] => { results := [.lit (.bool false)], args := [d1, d2] }
  | _ => none }
def FnReverseJoinedWrongFalsely : Prop := fnReverseJoinedRow.holds Tryd.pinned (OpenSpec.ofChange fnReverseJoinedWrong)

/-- 'laws.FnScrub': WHATEVER THE INPUT: true; the input reads as it did. -/
def fnScrubSpec : ChangeSpec := { name := "fnScrub", fn := fun _ => fun
  | [d1, d2] => { results := [.lit (.bool true)], args := [d1, d2] }
  | _ => none }
def fnScrubRow : OpenClaim := { program := "ytodablchamiaeaadoor", sum := "3f3342fa5aaa064aed5aebcf13d3a4fc1dfe75ee6aceb84cffda57bde32b6b6b", func := "pub-pencraft/laws.FnScrub", spec := "fnScrub", inPlace := ["internal/abi.NoEscape"], named := ["unicode/utf8.first", "unicode/utf8.acceptRanges"], apart := false, laid := [("unicode/utf8.acceptRanges", laid_unicode_utf8_acceptRanges), ("unicode/utf8.first", laid_unicode_utf8_first)] }
def FnScrubSaid : Prop := fnScrubRow.holds Tryd.pinned (OpenSpec.ofChange fnScrubSpec)

/-- ITS FALSE NEIGHBOUR: 'it returns false'. Refute it at one input. -/
def fnScrubWrong : ChangeSpec := { name := "fnScrub", fn := fun _ => fun
  | [d1, d2] => { results := [.lit (.bool false)], args := [d1, d2] }
  | _ => none }
def FnScrubWrongFalsely : Prop := fnScrubRow.holds Tryd.pinned (OpenSpec.ofChange fnScrubWrong)

/-- 'laws.FnWidth': WHATEVER THE INPUT: true; the input reads as it did. -/
def fnWidthSpec : ChangeSpec := { name := "fnWidth", fn := fun _ => fun
  | [d] => { results := [.lit (.bool true)], args := [d] }
  | _ => none }
def fnWidthRow : OpenClaim := { program := "ytodablchamiaeaadoor", sum := "3f3342fa5aaa064aed5aebcf13d3a4fc1dfe75ee6aceb84cffda57bde32b6b6b", func := "pub-pencraft/laws.FnWidth", spec := "fnWidth", named := ["unicode/utf8.first", "unicode/utf8.acceptRanges"], apart := false, laid := [("unicode/utf8.acceptRanges", laid_unicode_utf8_acceptRanges), ("unicode/utf8.first", laid_unicode_utf8_first)] }
def FnWidthSaid : Prop := fnWidthRow.holds Tryd.pinned (OpenSpec.ofChange fnWidthSpec)

/-- ITS FALSE NEIGHBOUR: 'it returns false'. Refute it at one input. -/
def fnWidthWrong : ChangeSpec := { name := "fnWidth", fn := fun _ => fun
  | [d] => { results := [.lit (.bool false)], args := [d] }
  | _ => none }
def FnWidthWrongFalsely : Prop := fnWidthRow.holds Tryd.pinned (OpenSpec.ofChange fnWidthWrong)

/-- 'laws.FnSliceParts': WHATEVER THE INPUT: true; the input reads as it did. -/
def fnSlicePartsSpec : ChangeSpec := { name := "fnSliceParts", fn := fun _ => fun
  | [d1, d2] => { results := [.lit (.bool true)], args := [d1, d2] }
  | _ => none }
def fnSlicePartsRow : OpenClaim := { program := "ytodablchamiaeaadoor", sum := "3f3342fa5aaa064aed5aebcf13d3a4fc1dfe75ee6aceb84cffda57bde32b6b6b", func := "pub-pencraft/laws.FnSliceParts", spec := "fnSliceParts", unfollowed := true, recurses := true, named := ["unicode/utf8.first", "unicode/utf8.acceptRanges"], apart := false, laid := [("unicode/utf8.acceptRanges", laid_unicode_utf8_acceptRanges), ("unicode/utf8.first", laid_unicode_utf8_first)] }
def FnSlicePartsSaid : Prop := fnSlicePartsRow.holds Tryd.pinned (OpenSpec.ofChange fnSlicePartsSpec)

/-- ITS FALSE NEIGHBOUR: 'it returns false'. Refute it at one input. -/
def fnSlicePartsWrong : ChangeSpec := { name := "fnSliceParts", fn := fun _ => fun
  | [d1, d2] => { results := [.lit (.bool false)], args := [d1, d2] }
  | _ => none }
def FnSlicePartsWrongFalsely : Prop := fnSlicePartsRow.holds Tryd.pinned (OpenSpec.ofChange fnSlicePartsWrong)

/-- 'laws.FnInsertBack': WHATEVER THE INPUT: true; the input reads as it did. -/
def fnInsertBackSpec : ChangeSpec := { name := "fnInsertBack", fn := fun _ => fun
  | [d1, d2, d3] => { results := [.lit (.bool true)], args := [d1, d2, d3] }
  | _ => none }
def fnInsertBackRow : OpenClaim := { program := "ytodablchamiaeaadoor", sum := "3f3342fa5aaa064aed5aebcf13d3a4fc1dfe75ee6aceb84cffda57bde32b6b6b", func := "pub-pencraft/laws.FnInsertBack", spec := "fnInsertBack", unfollowed := true, recurses := true, named := ["unicode/utf8.first", "unicode/utf8.acceptRanges"], apart := false, laid := [("unicode/utf8.acceptRanges", laid_unicode_utf8_acceptRanges), ("unicode/utf8.first", laid_unicode_utf8_first)] }
def FnInsertBackSaid : Prop := fnInsertBackRow.holds Tryd.pinned (OpenSpec.ofChange fnInsertBackSpec)

/-- ITS FALSE NEIGHBOUR: 'it returns false'. Refute it at one input. -/
def fnInsertBackWrong : ChangeSpec := { name := "fnInsertBack", fn := fun _ => fun
  | [d1, d2, d3] => { results := [.lit (.bool false)], args := [d1, d2, d3] }
  | _ => none }
def FnInsertBackWrongFalsely : Prop := fnInsertBackRow.holds Tryd.pinned (OpenSpec.ofChange fnInsertBackWrong)

/-- 'laws.FnLeftJustify': WHATEVER THE INPUT: true; the input reads as it did. -/
def fnLeftJustifySpec : ChangeSpec := { name := "fnLeftJustify", fn := fun _ => fun
  | [d1, d2, d3] => { results := [.lit (.bool true)], args := [d1, d2, d3] }
  | _ => none }
def fnLeftJustifyRow : OpenClaim := { program := "ytodablchamiaeaadoor", sum := "3f3342fa5aaa064aed5aebcf13d3a4fc1dfe75ee6aceb84cffda57bde32b6b6b", func := "pub-pencraft/laws.FnLeftJustify", spec := "fnLeftJustify", inPlace := ["internal/abi.NoEscape", "internal/bytealg.MakeNoZero"], named := ["unicode/utf8.first", "unicode/utf8.acceptRanges"], apart := false, laid := [("unicode/utf8.acceptRanges", laid_unicode_utf8_acceptRanges), ("unicode/utf8.first", laid_unicode_utf8_first)] }
def FnLeftJustifySaid : Prop := fnLeftJustifyRow.holds Tryd.pinned (OpenSpec.ofChange fnLeftJustifySpec)

/-- ITS FALSE NEIGHBOUR: 'it returns false'. Refute it at one input. -/
def fnLeftJustifyWrong : ChangeSpec := { name := "fnLeftJustify", fn := fun _ => fun
  | [d1, d2, d3] => { results := [.lit (.bool false)], args := [d1, d2, d3] }
  | _ => none }
def FnLeftJustifyWrongFalsely : Prop := fnLeftJustifyRow.holds Tryd.pinned (OpenSpec.ofChange fnLeftJustifyWrong)

/-- 'laws.FnCenter': WHATEVER THE INPUT: true; the input reads as it did. -/
def fnCenterSpec : ChangeSpec := { name := "fnCenter", fn := fun _ => fun
  | [d1, d2, d3] => { results := [.lit (.bool true)], args := [d1, d2, d3] }
  | _ => none }
def fnCenterRow : OpenClaim := { program := "ytodablchamiaeaadoor", sum := "3f3342fa5aaa064aed5aebcf13d3a4fc1dfe75ee6aceb84cffda57bde32b6b6b", func := "pub-pencraft/laws.FnCenter", spec := "fnCenter", inPlace := ["internal/abi.NoEscape", "internal/bytealg.MakeNoZero"], named := ["unicode/utf8.first", "unicode/utf8.acceptRanges"], apart := false, laid := [("unicode/utf8.acceptRanges", laid_unicode_utf8_acceptRanges), ("unicode/utf8.first", laid_unicode_utf8_first)] }
def FnCenterSaid : Prop := fnCenterRow.holds Tryd.pinned (OpenSpec.ofChange fnCenterSpec)

/-- ITS FALSE NEIGHBOUR: 'it returns false'. Refute it at one input. -/
def fnCenterWrong : ChangeSpec := { name := "fnCenter", fn := fun _ => fun
  | [d1, d2, d3] => { results := [.lit (.bool false)], args := [d1, d2, d3] }
  | _ => none }
def FnCenterWrongFalsely : Prop := fnCenterRow.holds Tryd.pinned (OpenSpec.ofChange fnCenterWrong)

/-- 'laws.FnWordSplit': WHATEVER THE INPUT: true; the input reads as it did. -/
def fnWordSplitSpec : ChangeSpec := { name := "fnWordSplit", fn := fun _ => fun
  | [d] => { results := [.lit (.bool true)], args := [d] }
  | _ => none }
def fnWordSplitRow : OpenClaim := { program := "ytodablchamiaeaadoor", sum := "3f3342fa5aaa064aed5aebcf13d3a4fc1dfe75ee6aceb84cffda57bde32b6b6b", func := "pub-pencraft/laws.FnWordSplit", spec := "fnWordSplit", named := ["unicode/utf8.first", "unicode/utf8.acceptRanges", "unicode.properties", "unicode.Letter"], apart := false, laid := [("unicode/utf8.acceptRanges", laid_unicode_utf8_acceptRanges), ("unicode.properties", laid_unicode_properties), ("unicode.Letter", laid_unicode_Letter), ("unicode/utf8.first", laid_unicode_utf8_first)] }
def FnWordSplitSaid : Prop := fnWordSplitRow.holds Tryd.pinned (OpenSpec.ofChange fnWordSplitSpec)

/-- ITS FALSE NEIGHBOUR: 'it returns false'. Refute it at one input. -/
def fnWordSplitWrong : ChangeSpec := { name := "fnWordSplit", fn := fun _ => fun
  | [d] => { results := [.lit (.bool false)], args := [d] }
  | _ => none }
def FnWordSplitWrongFalsely : Prop := fnWordSplitRow.holds Tryd.pinned (OpenSpec.ofChange fnWordSplitWrong)

/-- 'laws.FnFirst': WHATEVER THE INPUT: true; the input reads as it did. -/
def fnFirstSpec : ChangeSpec := { name := "fnFirst", fn := fun _ => fun
  | [d] => { results := [.lit (.bool true)], args := [d] }
  | _ => none }
def fnFirstRow : OpenClaim := { program := "ytodablchamiaeaadoor", sum := "3f3342fa5aaa064aed5aebcf13d3a4fc1dfe75ee6aceb84cffda57bde32b6b6b", func := "pub-pencraft/laws.FnFirst", spec := "fnFirst", inPlace := ["internal/abi.NoEscape"], named := ["unicode/utf8.first", "unicode/utf8.acceptRanges", "unicode.CaseRanges"], apart := false, laid := [("unicode/utf8.acceptRanges", laid_unicode_utf8_acceptRanges), ("unicode.CaseRanges", laid_unicode_CaseRanges), ("unicode/utf8.first", laid_unicode_utf8_first)] }
def FnFirstSaid : Prop := fnFirstRow.holds Tryd.pinned (OpenSpec.ofChange fnFirstSpec)

/-- ITS FALSE NEIGHBOUR: 'it returns false'. Refute it at one input. -/
def fnFirstWrong : ChangeSpec := { name := "fnFirst", fn := fun _ => fun
  | [d] => { results := [.lit (.bool false)], args := [d] }
  | _ => none }
def FnFirstWrongFalsely : Prop := fnFirstRow.holds Tryd.pinned (OpenSpec.ofChange fnFirstWrong)

/-- 'laws.FnJustifyLen': WHATEVER THE INPUT: true; the input reads as it did. -/
def fnJustifyLenSpec : ChangeSpec := { name := "fnJustifyLen", fn := fun _ => fun
  | [d1, d2, d3] => { results := [.lit (.bool true)], args := [d1, d2, d3] }
  | _ => none }
def fnJustifyLenRow : OpenClaim := { program := "ytodablchamiaeaadoor", sum := "3f3342fa5aaa064aed5aebcf13d3a4fc1dfe75ee6aceb84cffda57bde32b6b6b", func := "pub-pencraft/laws.FnJustifyLen", spec := "fnJustifyLen", inPlace := ["internal/abi.NoEscape", "internal/bytealg.MakeNoZero"], named := ["unicode/utf8.first", "unicode/utf8.acceptRanges"], apart := false, laid := [("unicode/utf8.acceptRanges", laid_unicode_utf8_acceptRanges), ("unicode/utf8.first", laid_unicode_utf8_first)] }
def FnJustifyLenSaid : Prop := fnJustifyLenRow.holds Tryd.pinned (OpenSpec.ofChange fnJustifyLenSpec)

/-- ITS FALSE NEIGHBOUR: 'it returns false'. Refute it at one input. -/
def fnJustifyLenWrong : ChangeSpec := { name := "fnJustifyLen", fn := fun _ => fun
  | [d1, d2, d3] => { results := [.lit (.bool false)], args := [d1, d2, d3] }
  | _ => none }
def FnJustifyLenWrongFalsely : Prop := fnJustifyLenRow.holds Tryd.pinned (OpenSpec.ofChange fnJustifyLenWrong)

/-- 'laws.FnExpandTabs': WHATEVER THE INPUT: true; the input reads as it did. -/
def fnExpandTabsSpec : ChangeSpec := { name := "fnExpandTabs", fn := fun _ => fun
  | [d1, d2] => { results := [.lit (.bool true)], args := [d1, d2] }
  | _ => none }
def fnExpandTabsRow : OpenClaim := { program := "ytodablchamiaeaadoor", sum := "3f3342fa5aaa064aed5aebcf13d3a4fc1dfe75ee6aceb84cffda57bde32b6b6b", func := "pub-pencraft/laws.FnExpandTabs", spec := "fnExpandTabs", inPlace := ["internal/abi.NoEscape", "internal/bytealg.MakeNoZero"], unfollowed := true, recurses := true, named := ["unicode/utf8.first", "unicode/utf8.acceptRanges"], apart := false, laid := [("unicode/utf8.acceptRanges", laid_unicode_utf8_acceptRanges), ("unicode/utf8.first", laid_unicode_utf8_first)] }
def FnExpandTabsSaid : Prop := fnExpandTabsRow.holds Tryd.pinned (OpenSpec.ofChange fnExpandTabsSpec)

/-- ITS FALSE NEIGHBOUR: 'it returns false'. Refute it at one input. -/
def fnExpandTabsWrong : ChangeSpec := { name := "fnExpandTabs", fn := fun _ => fun
  | [d1, d2] => { results := [.lit (.bool false)], args := [d1, d2] }
  | _ => none }
def FnExpandTabsWrongFalsely : Prop := fnExpandTabsRow.holds Tryd.pinned (OpenSpec.ofChange fnExpandTabsWrong)

/-- 'laws.FnSwapCase': WHATEVER THE INPUT: true; the input reads as it did. -/
def fnSwapCaseSpec : ChangeSpec := { name := "fnSwapCase", fn := fun _ => fun
  | [d] => { results := [.lit (.bool true)], args := [d] }
  | _ => none }
def fnSwapCaseRow : OpenClaim := { program := "ytodablchamiaeaadoor", sum := "3f3342fa5aaa064aed5aebcf13d3a4fc1dfe75ee6aceb84cffda57bde32b6b6b", func := "pub-pencraft/laws.FnSwapCase", spec := "fnSwapCase", inPlace := ["internal/abi.NoEscape"], named := ["unicode/utf8.first", "unicode/utf8.acceptRanges", "unicode.properties", "unicode.Upper", "unicode.CaseRanges", "unicode.Lower"], apart := false, laid := [("unicode/utf8.acceptRanges", laid_unicode_utf8_acceptRanges), ("unicode.properties", laid_unicode_properties), ("unicode.CaseRanges", laid_unicode_CaseRanges), ("unicode.Lower", laid_unicode_Lower), ("unicode.Upper", laid_unicode_Upper), ("unicode/utf8.first", laid_unicode_utf8_first)] }
def FnSwapCaseSaid : Prop := fnSwapCaseRow.holds Tryd.pinned (OpenSpec.ofChange fnSwapCaseSpec)

/-- ITS FALSE NEIGHBOUR: 'it returns false'. Refute it at one input. -/
def fnSwapCaseWrong : ChangeSpec := { name := "fnSwapCase", fn := fun _ => fun
  | [d] => { results := [.lit (.bool false)], args := [d] }
  | _ => none }
def FnSwapCaseWrongFalsely : Prop := fnSwapCaseRow.holds Tryd.pinned (OpenSpec.ofChange fnSwapCaseWrong)

/-- 'laws.FnMeasureSays': WHATEVER THE INPUT: true; the input reads as it did. -/
def fnMeasureSaysSpec : ChangeSpec := { name := "fnMeasureSays", fn := fun _ => fun
  | [d1, d2, d3] => { results := [.lit (.bool true)], args := [d1, d2, d3] }
  | _ => none }
def fnMeasureSaysRow : OpenClaim := { program := "ytodablchamiaeaadoor", sum := "3f3342fa5aaa064aed5aebcf13d3a4fc1dfe75ee6aceb84cffda57bde32b6b6b", func := "pub-pencraft/laws.FnMeasureSays", spec := "fnMeasureSays", inPlace := ["internal/abi.NoEscape", "internal/bytealg.MakeNoZero"], unfollowed := true, recurses := true, named := ["unicode/utf8.first", "unicode/utf8.acceptRanges"], apart := false, laid := [("unicode/utf8.acceptRanges", laid_unicode_utf8_acceptRanges), ("unicode/utf8.first", laid_unicode_utf8_first)] }
def FnMeasureSaysSaid : Prop := fnMeasureSaysRow.holds Tryd.pinned (OpenSpec.ofChange fnMeasureSaysSpec)

/-- ITS FALSE NEIGHBOUR: 'it returns false'. Refute it at one input. -/
def fnMeasureSaysWrong : ChangeSpec := { name := "fnMeasureSays", fn := fun _ => fun
  | [d1, d2, d3] => { results := [.lit (.bool false)], args := [d1, d2, d3] }
  | _ => none }
def FnMeasureSaysWrongFalsely : Prop := fnMeasureSaysRow.holds Tryd.pinned (OpenSpec.ofChange fnMeasureSaysWrong)

/- THE SECOND FORM. 'bulk': how many values and letters a reading holds, each counted each time it is reached (what is shared counts as often as it is met; a slice's spare places count too). A statement '..UptoSaid' is the law's where the arguments, and the package variables that the reading takes, are together of bulk at most 1048576: NARROWER than '..Said'. Prove '..Said' where nothing that the law and all that it calls make is longer than what came in: it says more and counts as full. Else prove '..UptoSaid'. A law counts once. -/
mutual
def uptoBulk {H : Type} : DataW H → Nat
  | .lit (.string bytes) => bytes.length + 1
  | .lit _ => 1
  | .nil => 1
  | .ptr d => uptoBulk d + 1
  | .slice elems spare => uptoBulkAll elems + uptoBulkAll spare + 1
  | .agg parts => uptoBulkAll parts + 1
  | .iface _ d => uptoBulk d + 1
  | .map entries => uptoBulkEntries entries + 1
  | .held _ => 1
def uptoBulkAll {H : Type} : List (DataW H) → Nat
  | [] => 0
  | d :: r => uptoBulk d + uptoBulkAll r
def uptoBulkEntries {H : Type} : List (Lit × DataW H) → Nat
  | [] => 0
  | x :: r => uptoBulkEntry x + uptoBulkEntries r
def uptoBulkEntry {H : Type} : Lit × DataW H → Nat
  | (.string bytes, d) => bytes.length + uptoBulk d + 1
  | (_, d) => uptoBulk d + 1
 end
def uptoSmall : (H : Type) → List (DataW H) → Bool := fun _ ds => decide (uptoBulkAll ds ≤ 1048576)
def OpenSpec.upto (s : _root_.Go.ChangeSpec) : _root_.Go.OpenSpec := { _root_.Go.OpenSpec.ofChange s with cond := some uptoSmall }

/-- 'laws.FnReverse', WHERE WHAT IT READS IS OF BULK AT MOST 1048576: true; the input reads as it did. -/
def fnReverseUptoRow : OpenClaim := { program := "ytodablchamiaeaadoor", sum := "3f3342fa5aaa064aed5aebcf13d3a4fc1dfe75ee6aceb84cffda57bde32b6b6b", func := "pub-pencraft/laws.FnReverse", spec := "fnReverse", named := ["unicode/utf8.first", "unicode/utf8.acceptRanges"], apart := false, laid := [("unicode/utf8.acceptRanges", laid_unicode_utf8_acceptRanges), ("unicode/utf8.first", laid_unicode_utf8_first)], narrowed := true }
def FnReverseUptoSaid : Prop := fnReverseUptoRow.holds Tryd.pinned (OpenSpec.upto fnReverseSpec)

/-- 'laws.FnReverseJoined', WHERE WHAT IT READS IS OF BULK AT MOST 1048576: true; the input reads as it did. -/
def fnReverseJoinedUptoRow : OpenClaim := { program := "ytodablchamiaeaadoor", sum := "3f3342fa5aaa064aed5aebcf13d3a4fc1dfe75ee6aceb84cffda57bde32b6b6b", func := "pub-pencraft/laws.FnReverseJoined", spec := "fnReverseJoined", named := ["unicode/utf8.first", "unicode/utf8.acceptRanges"], apart := false, laid := [("unicode/utf8.acceptRanges", laid_unicode_utf8_acceptRanges), ("unicode/utf8.first", laid_unicode_utf8_first)], narrowed := true }
def FnReverseJoinedUptoSaid : Prop := fnReverseJoinedUptoRow.holds Tryd.pinned (OpenSpec.upto fnReverseJoinedSpec)

/-- 'laws.FnScrub', WHERE WHAT IT READS IS OF BULK AT MOST 1048576: true; the input reads as it did. -/
def fnScrubUptoRow : OpenClaim := { program := "ytodablchamiaeaadoor", sum := "3f3342fa5aaa064aed5aebcf13d3a4fc1dfe75ee6aceb84cffda57bde32b6b6b", func := "pub-pencraft/laws.FnScrub", spec := "fnScrub", inPlace := ["internal/abi.NoEscape"], named := ["unicode/utf8.first", "unicode/utf8.acceptRanges"], apart := false, laid := [("unicode/utf8.acceptRanges", laid_unicode_utf8_acceptRanges), ("unicode/utf8.first", laid_unicode_utf8_first)], narrowed := true }
def FnScrubUptoSaid : Prop := fnScrubUptoRow.holds Tryd.pinned (OpenSpec.upto fnScrubSpec)

/-- 'laws.FnWidth', WHERE WHAT IT READS IS OF BULK AT MOST 1048576: true; the input reads as it did. -/
def fnWidthUptoRow : OpenClaim := { program := "ytodablchamiaeaadoor", sum := "3f3342fa5aaa064aed5aebcf13d3a4fc1dfe75ee6aceb84cffda57bde32b6b6b", func := "pub-pencraft/laws.FnWidth", spec := "fnWidth", named := ["unicode/utf8.first", "unicode/utf8.acceptRanges"], apart := false, laid := [("unicode/utf8.acceptRanges", laid_unicode_utf8_acceptRanges), ("unicode/utf8.first", laid_unicode_utf8_first)], narrowed := true }
def FnWidthUptoSaid : Prop := fnWidthUptoRow.holds Tryd.pinned (OpenSpec.upto fnWidthSpec)

/-- 'laws.FnSliceParts', WHERE WHAT IT READS IS OF BULK AT MOST 1048576: true; the input reads as it did. -/
def fnSlicePartsUptoRow : OpenClaim := { program := "ytodablchamiaeaadoor", sum := "3f3342fa5aaa064aed5aebcf13d3a4fc1dfe75ee6aceb84cffda57bde32b6b6b", func := "pub-pencraft/laws.FnSliceParts", spec := "fnSliceParts", unfollowed := true, recurses := true, named := ["unicode/utf8.first", "unicode/utf8.acceptRanges"], apart := false, laid := [("unicode/utf8.acceptRanges", laid_unicode_utf8_acceptRanges), ("unicode/utf8.first", laid_unicode_utf8_first)], narrowed := true }
def FnSlicePartsUptoSaid : Prop := fnSlicePartsUptoRow.holds Tryd.pinned (OpenSpec.upto fnSlicePartsSpec)

/-- 'laws.FnInsertBack', WHERE WHAT IT READS IS OF BULK AT MOST 1048576: true; the input reads as it did. -/
def fnInsertBackUptoRow : OpenClaim := { program := "ytodablchamiaeaadoor", sum := "3f3342fa5aaa064aed5aebcf13d3a4fc1dfe75ee6aceb84cffda57bde32b6b6b", func := "pub-pencraft/laws.FnInsertBack", spec := "fnInsertBack", unfollowed := true, recurses := true, named := ["unicode/utf8.first", "unicode/utf8.acceptRanges"], apart := false, laid := [("unicode/utf8.acceptRanges", laid_unicode_utf8_acceptRanges), ("unicode/utf8.first", laid_unicode_utf8_first)], narrowed := true }
def FnInsertBackUptoSaid : Prop := fnInsertBackUptoRow.holds Tryd.pinned (OpenSpec.upto fnInsertBackSpec)

/-- 'laws.FnLeftJustify', WHERE WHAT IT READS IS OF BULK AT MOST 1048576: true; the input reads as it did. -/
def fnLeftJustifyUptoRow : OpenClaim := { program := "ytodablchamiaeaadoor", sum := "3f3342fa5aaa064aed5aebcf13d3a4fc1dfe75ee6aceb84cffda57bde32b6b6b", func := "pub-pencraft/laws.FnLeftJustify", spec := "fnLeftJustify", inPlace := ["internal/abi.NoEscape", "internal/bytealg.MakeNoZero"], named := ["unicode/utf8.first", "unicode/utf8.acceptRanges"], apart := false, laid := [("unicode/utf8.acceptRanges", laid_unicode_utf8_acceptRanges), ("unicode/utf8.first", laid_unicode_utf8_first)], narrowed := true }
def FnLeftJustifyUptoSaid : Prop := fnLeftJustifyUptoRow.holds Tryd.pinned (OpenSpec.upto fnLeftJustifySpec)

/-- 'laws.FnCenter', WHERE WHAT IT READS IS OF BULK AT MOST 1048576: true; the input reads as it did. -/
def fnCenterUptoRow : OpenClaim := { program := "ytodablchamiaeaadoor", sum := "3f3342fa5aaa064aed5aebcf13d3a4fc1dfe75ee6aceb84cffda57bde32b6b6b", func := "pub-pencraft/laws.FnCenter", spec := "fnCenter", inPlace := ["internal/abi.NoEscape", "internal/bytealg.MakeNoZero"], named := ["unicode/utf8.first", "unicode/utf8.acceptRanges"], apart := false, laid := [("unicode/utf8.acceptRanges", laid_unicode_utf8_acceptRanges), ("unicode/utf8.first", laid_unicode_utf8_first)], narrowed := true }
def FnCenterUptoSaid : Prop := fnCenterUptoRow.holds Tryd.pinned (OpenSpec.upto fnCenterSpec)

/-- 'laws.FnWordSplit', WHERE WHAT IT READS IS OF BULK AT MOST 1048576: true; the input reads as it did. -/
def fnWordSplitUptoRow : OpenClaim := { program := "ytodablchamiaeaadoor", sum := "3f3342fa5aaa064aed5aebcf13d3a4fc1dfe75ee6aceb84cffda57bde32b6b6b", func := "pub-pencraft/laws.FnWordSplit", spec := "fnWordSplit", named := ["unicode/utf8.first", "unicode/utf8.acceptRanges", "unicode.properties", "unicode.Letter"], apart := false, laid := [("unicode/utf8.acceptRanges", laid_unicode_utf8_acceptRanges), ("unicode.properties", laid_unicode_properties), ("unicode.Letter", laid_unicode_Letter), ("unicode/utf8.first", laid_unicode_utf8_first)], narrowed := true }
def FnWordSplitUptoSaid : Prop := fnWordSplitUptoRow.holds Tryd.pinned (OpenSpec.upto fnWordSplitSpec)

/-- 'laws.FnFirst', WHERE WHAT IT READS IS OF BULK AT MOST 1048576: true; the input reads as it did. -/
def fnFirstUptoRow : OpenClaim := { program := "ytodablchamiaeaadoor", sum := "3f3342fa5aaa064aed5aebcf13d3a4fc1dfe75ee6aceb84cffda57bde32b6b6b", func := "pub-pencraft/laws.FnFirst", spec := "fnFirst", inPlace := ["internal/abi.NoEscape"], named := ["unicode/utf8.first", "unicode/utf8.acceptRanges", "unicode.CaseRanges"], apart := false, laid := [("unicode/utf8.acceptRanges", laid_unicode_utf8_acceptRanges), ("unicode.CaseRanges", laid_unicode_CaseRanges), ("unicode/utf8.first", laid_unicode_utf8_first)], narrowed := true }
def FnFirstUptoSaid : Prop := fnFirstUptoRow.holds Tryd.pinned (OpenSpec.upto fnFirstSpec)

/-- 'laws.FnJustifyLen', WHERE WHAT IT READS IS OF BULK AT MOST 1048576: true; the input reads as it did. -/
def fnJustifyLenUptoRow : OpenClaim := { program := "ytodablchamiaeaadoor", sum := "3f3342fa5aaa064aed5aebcf13d3a4fc1dfe75ee6aceb84cffda57bde32b6b6b", func := "pub-pencraft/laws.FnJustifyLen", spec := "fnJustifyLen", inPlace := ["internal/abi.NoEscape", "internal/bytealg.MakeNoZero"], named := ["unicode/utf8.first", "unicode/utf8.acceptRanges"], apart := false, laid := [("unicode/utf8.acceptRanges", laid_unicode_utf8_acceptRanges), ("unicode/utf8.first", laid_unicode_utf8_first)], narrowed := true }
def FnJustifyLenUptoSaid : Prop := fnJustifyLenUptoRow.holds Tryd.pinned (OpenSpec.upto fnJustifyLenSpec)

/-- 'laws.FnExpandTabs', WHERE WHAT IT READS IS OF BULK AT MOST 1048576: true; the input reads as it did. -/
def fnExpandTabsUptoRow : OpenClaim := { program := "ytodablchamiaeaadoor", sum := "3f3342fa5aaa064aed5aebcf13d3a4fc1dfe75ee6aceb84cffda57bde32b6b6b", func := "pub-pencraft/laws.FnExpandTabs", spec := "fnExpandTabs", inPlace := ["internal/abi.NoEscape", "internal/bytealg.MakeNoZero"], unfollowed := true, recurses := true, named := ["unicode/utf8.first", "unicode/utf8.acceptRanges"], apart := false, laid := [("unicode/utf8.acceptRanges", laid_unicode_utf8_acceptRanges), ("unicode/utf8.first", laid_unicode_utf8_first)], narrowed := true }
def FnExpandTabsUptoSaid : Prop := fnExpandTabsUptoRow.holds Tryd.pinned (OpenSpec.upto fnExpandTabsSpec)

/-- 'laws.FnSwapCase', WHERE WHAT IT READS IS OF BULK AT MOST 1048576: true; the input reads as it did. -/
def fnSwapCaseUptoRow : OpenClaim := { program := "ytodablchamiaeaadoor", sum := "3f3342fa5aaa064aed5aebcf13d3a4fc1dfe75ee6aceb84cffda57bde32b6b6b", func := "pub-pencraft/laws.FnSwapCase", spec := "fnSwapCase", inPlace := ["internal/abi.NoEscape"], named := ["unicode/utf8.first", "unicode/utf8.acceptRanges", "unicode.properties", "unicode.Upper", "unicode.CaseRanges", "unicode.Lower"], apart := false, laid := [("unicode/utf8.acceptRanges", laid_unicode_utf8_acceptRanges), ("unicode.properties", laid_unicode_properties), ("unicode.CaseRanges", laid_unicode_CaseRanges), ("unicode.Lower", laid_unicode_Lower), ("unicode.Upper", laid_unicode_Upper), ("unicode/utf8.first", laid_unicode_utf8_first)], narrowed := true }
def FnSwapCaseUptoSaid : Prop := fnSwapCaseUptoRow.holds Tryd.pinned (OpenSpec.upto fnSwapCaseSpec)

/-- 'laws.FnMeasureSays', WHERE WHAT IT READS IS OF BULK AT MOST 1048576: true; the input reads as it did. -/
def fnMeasureSaysUptoRow : OpenClaim := { program := "ytodablchamiaeaadoor", sum := "3f3342fa5aaa064aed5aebcf13d3a4fc1dfe75ee6aceb84cffda57bde32b6b6b", func := "pub-pencraft/laws.FnMeasureSays", spec := "fnMeasureSays", inPlace := ["internal/abi.NoEscape", "internal/bytealg.MakeNoZero"], unfollowed := true, recurses := true, named := ["unicode/utf8.first", "unicode/utf8.acceptRanges"], apart := false, laid := [("unicode/utf8.acceptRanges", laid_unicode_utf8_acceptRanges), ("unicode/utf8.first", laid_unicode_utf8_first)], narrowed := true }
def FnMeasureSaysUptoSaid : Prop := fnMeasureSaysUptoRow.holds Tryd.pinned (OpenSpec.upto fnMeasureSaysSpec)

end Rows
end Go.Proofs.YtodablchamiaeaaDoor
