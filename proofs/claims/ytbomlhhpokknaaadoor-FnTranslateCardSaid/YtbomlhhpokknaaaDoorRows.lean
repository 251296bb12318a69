/-
  NARROWER THAN 'FOR EVERY INPUT', by the rows' own cells (each row's printed sentence says how): FnTranslateRune: laid · FnCount: laid · FnTranslate: laid · FnTranslateCases: laid · FnTranslateEmpty: laid · FnTranslateBack: laid · FnCountParts: laid.
  DERIVED. THE GIVEN ROWS OF THIS SEAT. 7 by the template 'for every input the law returns true; each argument reads behind the call as it read before'; 0 by the template 'total and deterministic' (their statements: YtbomlhhpokknaaaDoorTotals.lean).
  GIVEN WITH THE SEED: the statements are not yours to turn. If you find one false, say at which input.
  Laid BY PROGRAM, IN A SANDBOX (cutbox-rows.mjs): the forced cells as the released guide's own fill.sh prints them over the translation 1119af57e7ede649… (all of the seat's roots in one cut). By AI agents, Wed Nov 11 2026. No macro, syntax, notation, axiom, sorry.
-/
import Derived.Test.YtbomlhhpokknaaaDoorChecked
import GoSem.PinnedTables
import GoSem.Claim
import GoSem.ClaimJoined
import GoSem.ClaimMapViews
import Derived.JoinedTies
import Derived.KernelRfl
namespace Go.Proofs.YtbomlhhpokknaaaDoor
/- THE CELL 'sum', in the pinned program and in every row, IS THE sha256 OF THE DUMP (.gsa) THAT YtbomlhhpokknaaaDoorProg.lean LOADS. Nothing in Lean hashes anything: it is a label: what it is worth is what the hold of that sum in a sandbox is worth. -/
noncomputable def Tryd.pinned : Pinned := { name := "ytbomlhhpokknaaadoor", sum := "1119af57e7ede6491b55d1363b2268c63ee6cf8c1266080c653819c9b5467890", checked := Tryd.checked }
namespace Rows
def none {H : Type} : Left H := { results := [], args := [] }

/- WHAT THE LISTED PACKAGE-LEVEL VARIABLES READ AS WHEN THE CALL BEGINS. Each datum BY PROGRAM (the guide's laid-datum.mjs) off the statement by which the dump's own 'gosem.cut.vars' lays the variable. In a bare row this is a premise. The card (YtbomlhhpokknaaaDoorCards.lean) ties it to the program's text. -/
def laid_unicode_utf8_acceptRanges {H : Type} : DataW H := .agg [.agg [.lit (.int .u8 128), .lit (.int .u8 191)], .agg [.lit (.int .u8 160), .lit (.int .u8 191)], .agg [.lit (.int .u8 128), .lit (.int .u8 159)], .agg [.lit (.int .u8 144), .lit (.int .u8 191)], .agg [.lit (.int .u8 128), .lit (.int .u8 143)], .agg [.lit (.int .u8 0), .lit (.int .u8 0)], .agg [.lit (.int .u8 0), .lit (.int .u8 0)], .agg [.lit (.int .u8 0), .lit (.int .u8 0)], .agg [.lit (.int .u8 0), .lit (.int .u8 0)], .agg [.lit (.int .u8 0), .lit (.int .u8 0)], .agg [.lit (.int .u8 0), .lit (.int .u8 0)], .agg [.lit (.int .u8 0), .lit (.int .u8 0)], .agg [.lit (.int .u8 0), .lit (.int .u8 0)], .agg [.lit (.int .u8 0), .lit (.int .u8 0)], .agg [.lit (.int .u8 0), .lit (.int .u8 0)], .agg [.lit (.int .u8 0), .lit (.int .u8 0)]]
/-- One of Go's own tables, pinned by name: the form's constant. -/
def laid_unicode_utf8_first : DataW Unit := Go.Pinned.utf8First

/-- 'laws.FnTranslateRune': WHATEVER THE INPUT: true; the input reads as it did. -/
def fnTranslateRuneSpec : ChangeSpec := { name := "fnTranslateRune", fn := fun _ => fun
  | [d1, d2, d3] => { results := [.lit (.bool true)], args := [d1, d2, d3] }
  | _ => none }
def fnTranslateRuneRow : OpenClaim := { program := "ytbomlhhpokknaaadoor", sum := "1119af57e7ede6491b55d1363b2268c63ee6cf8c1266080c653819c9b5467890", func := "pub-pencraft/laws.FnTranslateRune", spec := "fnTranslateRune", unfollowed := true, recurses := true, named := ["unicode/utf8.first", "unicode/utf8.acceptRanges"], apart := false, laid := [("unicode/utf8.acceptRanges", laid_unicode_utf8_acceptRanges), ("unicode/utf8.first", laid_unicode_utf8_first)] }
def FnTranslateRuneSaid : Prop := fnTranslateRuneRow.holds Tryd.pinned (OpenSpec.ofChange fnTranslateRuneSpec)

/-- ITS FALSE NEIGHBOUR: 'it returns false'. Refute it at one input. -/
def fnTranslateRuneWrong : ChangeSpec := { name := "fnTranslateRune", fn := fun _ => fun
  | [d1, d2, d3] => { results := [.lit (.bool false)], args := [d1, d2, d3] }
  | _ => none }
def FnTranslateRuneWrongFalsely : Prop := fnTranslateRuneRow.holds Tryd.pinned (OpenSpec.ofChange fnTranslateRuneWrong)

/-- 'laws.FnCount': WHATEVER THE INPUT: true; the input reads as it did. -/
def fnCountSpec : ChangeSpec := { name := "fnCount", fn := fun _ => fun
  | [d1, d2] => { results := [.lit (.bool true)], args := [d1, d2] }
  | _ => none }
def fnCountRow : OpenClaim := { program := "ytbomlhhpokknaaadoor", sum := "1119af57e7ede6491b55d1363b2268c63ee6cf8c1266080c653819c9b5467890", func := "pub-pencraft/laws.FnCount", spec := "fnCount", unfollowed := true, recurses := true, named := ["unicode/utf8.first", "unicode/utf8.acceptRanges"], apart := false, laid := [("unicode/utf8.acceptRanges", laid_unicode_utf8_acceptRanges), ("unicode/utf8.first", laid_unicode_utf8_first)] }
def FnCountSaid : Prop := fnCountRow.holds Tryd.pinned (OpenSpec.ofChange fnCountSpec)

/-- ITS FALSE NEIGHBOUR: 'it returns false'. Refute it at one input. -/
def fnCountWrong : ChangeSpec := { name := "fnCount", fn := fun _ => fun
  | [d1, d2] => { results := [.lit (.bool false)], args := [d1, d2] }
  | _ => none }
def FnCountWrongFalsely : Prop := fnCountRow.holds Tryd.pinned (OpenSpec.ofChange fnCountWrong)

/-- 'laws.FnTranslate': WHATEVER THE INPUT: true; the input reads as it did. -/
def fnTranslateSpec : ChangeSpec := { name := "fnTranslate", fn := fun _ => fun
  | [d1, d2, d3] => { results := [.lit (.bool true)], args := [d1, d2, d3] }
  | _ => none }
def fnTranslateRow : OpenClaim := { program := "ytbomlhhpokknaaadoor", sum := "1119af57e7ede6491b55d1363b2268c63ee6cf8c1266080c653819c9b5467890", func := "pub-pencraft/laws.FnTranslate", spec := "fnTranslate", inPlace := ["internal/abi.NoEscape", "internal/bytealg.MakeNoZero"], unfollowed := true, recurses := true, named := ["unicode/utf8.first", "unicode/utf8.acceptRanges"], apart := false, laid := [("unicode/utf8.acceptRanges", laid_unicode_utf8_acceptRanges), ("unicode/utf8.first", laid_unicode_utf8_first)] }
def FnTranslateSaid : Prop := fnTranslateRow.holds Tryd.pinned (OpenSpec.ofChange fnTranslateSpec)

/-- ITS FALSE NEIGHBOUR: 'it returns false'. Refute it at one input. -/
def fnTranslateWrong : ChangeSpec := { name := "fnTranslate", fn := fun _ => fun
  | [d1, d2, d3] => { results := [.lit (.bool false)], args := [d1, d2, d3] }
  | _ => none }
def FnTranslateWrongFalsely : Prop := fnTranslateRow.holds Tryd.pinned (OpenSpec.ofChange fnTranslateWrong)

/-- 'laws.FnTranslateCases': WHATEVER THE INPUT: true; the input reads as it did. -/
def fnTranslateCasesSpec : ChangeSpec := { name := "fnTranslateCases", fn := fun _ => fun
  | [d] => { results := [.lit (.bool true)], args := [d] }
  | _ => none }
def fnTranslateCasesRow : OpenClaim := { program := "ytbomlhhpokknaaadoor", sum := "1119af57e7ede6491b55d1363b2268c63ee6cf8c1266080c653819c9b5467890", func := "pub-pencraft/laws.FnTranslateCases", spec := "fnTranslateCases", inPlace := ["internal/abi.NoEscape", "internal/bytealg.MakeNoZero"], unfollowed := true, recurses := true, named := ["unicode/utf8.first", "unicode/utf8.acceptRanges"], apart := false, laid := [("unicode/utf8.acceptRanges", laid_unicode_utf8_acceptRanges), ("unicode/utf8.first", laid_unicode_utf8_first)] }
def FnTranslateCasesSaid : Prop := fnTranslateCasesRow.holds Tryd.pinned (OpenSpec.ofChange fnTranslateCasesSpec)

/-- ITS FALSE NEIGHBOUR: 'it returns false'. Refute it at one input. -/
def fnTranslateCasesWrong : ChangeSpec := { name := "fnTranslateCases", fn := fun _ => fun
  | [d] => { results := [.lit (.bool false)], args := [d] }
  | _ => none }
def FnTranslateCasesWrongFalsely : Prop := fnTranslateCasesRow.holds Tryd.pinned (OpenSpec.ofChange fnTranslateCasesWrong)

/-- 'laws.FnTranslateEmpty': WHATEVER THE INPUT: true; the input reads as it did. -/
def fnTranslateEmptySpec : ChangeSpec := { name := "fnTranslateEmpty", fn := fun _ => fun
  | [d1, d2] => { results := [.lit (.bool true)], args := [d1, d2] }
  | _ => none }
def fnTranslateEmptyRow : OpenClaim := { program := "ytbomlhhpokknaaadoor", sum := "1119af57e7ede6491b55d1363b2268c63ee6cf8c1266080c653819c9b5467890", func := "pub-pencraft/laws.FnTranslateEmpty", spec := "fnTranslateEmpty", inPlace := ["internal/abi.NoEscape", "internal/bytealg.MakeNoZero"], unfollowed := true, recurses := true, named := ["unicode/utf8.first", "unicode/utf8.acceptRanges"], apart := false, laid := [("unicode/utf8.acceptRanges", laid_unicode_utf8_acceptRanges), ("unicode/utf8.first", laid_unicode_utf8_first)] }
def FnTranslateEmptySaid : Prop := fnTranslateEmptyRow.holds Tryd.pinned (OpenSpec.ofChange fnTranslateEmptySpec)

/-- ITS FALSE NEIGHBOUR: 'it returns false'. Refute it at one input. -/
def fnTranslateEmptyWrong : ChangeSpec := { name := "fnTranslateEmpty", fn := fun _ => fun
  | [d1, d2] => { results := [.lit (.bool false)], args := [d1, d2] }
  | _ => none }
def FnTranslateEmptyWrongFalsely : Prop := fnTranslateEmptyRow.holds Tryd.pinned (OpenSpec.ofChange fnTranslateEmptyWrong)

/-- 'laws.FnTranslateBack': WHATEVER THE INPUT: true; the input reads as it did. -/
def fnTranslateBackSpec : ChangeSpec := { name := "fnTranslateBack", fn := fun _ => fun
  | [d1, d2] => { results := [.lit (.bool true)], args := [d1, d2] }
  | _ => none }
def fnTranslateBackRow : OpenClaim := { program := "ytbomlhhpokknaaadoor", sum := "1119af57e7ede6491b55d1363b2268c63ee6cf8c1266080c653819c9b5467890", func := "pub-pencraft/laws.FnTranslateBack", spec := "fnTranslateBack", inPlace := ["internal/abi.NoEscape", "internal/bytealg.MakeNoZero"], unfollowed := true, recurses := true, named := ["unicode/utf8.first", "unicode/utf8.acceptRanges"], apart := false, laid := [("unicode/utf8.acceptRanges", laid_unicode_utf8_acceptRanges), ("unicode/utf8.first", laid_unicode_utf8_first)] }
def FnTranslateBackSaid : Prop := fnTranslateBackRow.holds Tryd.pinned (OpenSpec.ofChange fnTranslateBackSpec)

/-- ITS FALSE NEIGHBOUR: 'it returns false'. Refute it at one input. -/
def fnTranslateBackWrong : ChangeSpec := { name := "fnTranslateBack", fn := fun _ => fun
  | [d1, d2] => { results := [.lit (.bool false)], args := [d1, d2] }
  | _ => none }
def FnTranslateBackWrongFalsely : Prop := fnTranslateBackRow.holds Tryd.pinned (OpenSpec.ofChange fnTranslateBackWrong)

/-- 'laws.FnCountParts': WHATEVER THE INPUT: true; the input reads as it did. -/
def fnCountPartsSpec : ChangeSpec := { name := "fnCountParts", fn := fun _ => fun
  | [d1, d2] => { results := [.lit (.bool true)], args := [d1, d2] }
  | _ => none }
def fnCountPartsRow : OpenClaim := { program := "ytbomlhhpokknaaadoor", sum := "1119af57e7ede6491b55d1363b2268c63ee6cf8c1266080c653819c9b5467890", func := "pub-pencraft/laws.FnCountParts", spec := "fnCountParts", inPlace := ["internal/abi.NoEscape", "internal/bytealg.MakeNoZero"], unfollowed := true, recurses := true, named := ["unicode/utf8.first", "unicode/utf8.acceptRanges"], apart := false, laid := [("unicode/utf8.acceptRanges", laid_unicode_utf8_acceptRanges), ("unicode/utf8.first", laid_unicode_utf8_first)] }
def FnCountPartsSaid : Prop := fnCountPartsRow.holds Tryd.pinned (OpenSpec.ofChange fnCountPartsSpec)

/-- ITS FALSE NEIGHBOUR: 'it returns false'. Refute it at one input. -/
def fnCountPartsWrong : ChangeSpec := { name := "fnCountParts", fn := fun _ => fun
  | [d1, d2] => { results := [.lit (.bool false)], args := [d1, d2] }
  | _ => none }
def FnCountPartsWrongFalsely : Prop := fnCountPartsRow.holds Tryd.pinned (OpenSpec.ofChange fnCountPartsWrong)

/- THE SECOND FORM. 'bulk': how many values and letters a reading holds, each counted each time it is reached (what is shared counts as often as it is met; a slice's spare places count too). A statement '..UptoSaid' is the law's where the arguments, and the package variables that the reading takes, are together of bulk at most 1048576: NARROWER than '..Said'. Prove '..Said' where nothing that the law and all that it calls make is longer than what came in: it says more and counts as full. Else prove '..UptoSaid'. A law counts once. -/
mutual
def uptoBulk {H : Type} : DataW H → Nat
  | .lit (.string bytes) => bytes.length + 1
  | .lit _ => 1
  | .nil => 1
  | .ptr d => uptoBulk d + 1
  | .slice elems spare => uptoBulkAll elems + uptoBulkAll spare + 1
  | .agg parts => uptoBulkAll parts + 1
  | .iface _ d => uptoBulk d + 1
  | .map entries => uptoBulkEntries entries + 1
  | .held _ => 1
def uptoBulkAll {H : Type} : List (DataW H) → Nat
  | [] => 0
  | d :: r => uptoBulk d + uptoBulkAll r
def uptoBulkEntries {H : Type} : List (Lit × DataW H) → Nat
  | [] => 0
  | x :: r => uptoBulkEntry x + uptoBulkEntries r
def uptoBulkEntry {H : Type} : Lit × DataW H → Nat
  | (.string bytes, d) => bytes.length + uptoBulk d + 1
  | (_, d) => uptoBulk d + 1
 end
def uptoSmall : (H : Type) → List (DataW H) → Bool := fun _ ds => decide (uptoBulkAll ds ≤ 1048576)
def OpenSpec.upto (s : _root_.Go.ChangeSpec) : _root_.Go.OpenSpec := { _root_.Go.OpenSpec.ofChange s with cond := some uptoSmall }

/-- 'laws.FnTranslateRune', WHERE WHAT IT READS IS OF BULK AT MOST 1048576: true; the input reads as it did. -/
def fnTranslateRuneUptoRow : OpenClaim := { program := "ytbomlhhpokknaaadoor", sum := "1119af57e7ede6491b55d1363b2268c63ee6cf8c1266080c653819c9b5467890", func := "pub-pencraft/laws.FnTranslateRune", spec := "fnTranslateRune", unfollowed := true, recurses := true, named := ["unicode/utf8.first", "unicode/utf8.acceptRanges"], apart := false, laid := [("unicode/utf8.acceptRanges", laid_unicode_utf8_acceptRanges), ("unicode/utf8.first", laid_unicode_utf8_first)], narrowed := true }
def FnTranslateRuneUptoSaid : Prop := fnTranslateRuneUptoRow.holds Tryd.pinned (OpenSpec.upto fnTranslateRuneSpec)

/-- 'laws.FnCount', WHERE WHAT IT READS IS OF BULK AT MOST 1048576: true; the input reads as it did. -/
def fnCountUptoRow : OpenClaim := { program := "ytbomlhhpokknaaadoor", sum := "1119af57e7ede6491b55d1363b2268c63ee6cf8c1266080c653819c9b5467890", func := "pub-pencraft/laws.FnCount", spec := "fnCount", unfollowed := true, recurses := true, named := ["unicode/utf8.first", "unicode/utf8.acceptRanges"], apart := false, laid := [("unicode/utf8.acceptRanges", laid_unicode_utf8_acceptRanges), ("unicode/utf8.first", laid_unicode_utf8_first)], narrowed := true }
def FnCountUptoSaid : Prop := fnCountUptoRow.holds Tryd.pinned (OpenSpec.upto fnCountSpec)

/-- 'laws.FnTranslate', WHERE WHAT IT READS IS OF BULK AT MOST 1048576: true; the input reads as it did. -/
def fnTranslateUptoRow : OpenClaim := { program := "ytbomlhhpokknaaadoor", sum := "1119af57e7ede6491b55d1363b2268c63ee6cf8c1266080c653819c9b5467890", func := "pub-pencraft/laws.FnTranslate", spec := "fnTranslate", inPlace := ["internal/abi.NoEscape", "internal/bytealg.MakeNoZero"], unfollowed := true, recurses := true, named := ["unicode/utf8.first", "unicode/utf8.acceptRanges"], apart := false, laid := [("unicode/utf8.acceptRanges", laid_unicode_utf8_acceptRanges), ("unicode/utf8.first", laid_unicode_utf8_first)], narrowed := true }
def FnTranslateUptoSaid : Prop := fnTranslateUptoRow.holds Tryd.pinned (OpenSpec.upto fnTranslateSpec)

/-- 'laws.FnTranslateCases', WHERE WHAT IT READS IS OF BULK AT MOST 1048576: true; the input reads as it did. -/
def fnTranslateCasesUptoRow : OpenClaim := { program := "ytbomlhhpokknaaadoor", sum := "1119af57e7ede6491b55d1363b2268c63ee6cf8c1266080c653819c9b5467890", func := "pub-pencraft/laws.FnTranslateCases", spec := "fnTranslateCases", inPlace := ["internal/abi.NoEscape", "internal/bytealg.MakeNoZero"], unfollowed := true, recurses := true, named := ["unicode/utf8.first", "unicode/utf8.acceptRanges"], apart := false, laid := [("unicode/utf8.acceptRanges", laid_unicode_utf8_acceptRanges), ("unicode/utf8.first", laid_unicode_utf8_first)], narrowed := true }
def FnTranslateCasesUptoSaid : Prop := fnTranslateCasesUptoRow.holds Tryd.pinned (OpenSpec.upto fnTranslateCasesSpec)

/-- 'laws.FnTranslateEmpty', WHERE WHAT IT READS IS OF BULK AT MOST 1048576: true; the input reads as it did. -/
def fnTranslateEmptyUptoRow : OpenClaim := { program := "ytbomlhhpokknaaadoor", sum := "1119af57e7ede6491b55d1363b2268c63ee6cf8c1266080c653819c9b5467890", func := "pub-pencraft/laws.FnTranslateEmpty", spec := "fnTranslateEmpty", inPlace := ["internal/abi.NoEscape", "internal/bytealg.MakeNoZero"], unfollowed := true, recurses := true, named := ["unicode/utf8.first", "unicode/utf8.acceptRanges"], apart := false, laid := [("unicode/utf8.acceptRanges", laid_unicode_utf8_acceptRanges), ("unicode/utf8.first", laid_unicode_utf8_first)], narrowed := true }
def FnTranslateEmptyUptoSaid : Prop := fnTranslateEmptyUptoRow.holds Tryd.pinned (OpenSpec.upto fnTranslateEmptySpec)

/-- 'laws.FnTranslateBack', WHERE WHAT IT READS IS OF BULK AT MOST 1048576: true; the input reads as it did. -/
def fnTranslateBackUptoRow : OpenClaim := { program := "ytbomlhhpokknaaadoor", sum := "1119af57e7ede6491b55d1363b2268c63ee6cf8c1266080c653819c9b5467890", func := "pub-pencraft/laws.FnTranslateBack", spec := "fnTranslateBack", inPlace := ["internal/abi.NoEscape", "internal/bytealg.MakeNoZero"], unfollowed := true, recurses := true, named := ["unicode/utf8.first", "unicode/utf8.acceptRanges"], apart := false, laid := [("unicode/utf8.acceptRanges", laid_unicode_utf8_acceptRanges), ("unicode/utf8.first", laid_unicode_utf8_first)], narrowed := true }
def FnTranslateBackUptoSaid : Prop := fnTranslateBackUptoRow.holds Tryd.pinned (OpenSpec.upto fnTranslateBackSpec)

/-- 'laws.FnCountParts', WHERE WHAT IT READS IS OF BULK AT MOST 1048576: true; the input reads as it did. -/
def fnCountPartsUptoRow : OpenClaim := { program := "ytbomlhhpokknaaadoor", sum := "1119af57e7ede6491b55d1363b2268c63ee6cf8c1266080c653819c9b5467890", func := "pub-pencraft/laws.FnCountParts", spec := "fnCountParts", inPlace := ["internal/abi.NoEscape", "internal/bytealg.MakeNoZero"], unfollowed := true, recurses := true, named := ["unicode/utf8.first", "unicode/utf8.acceptRanges"], apart := false, laid := [("unicode/utf8.acceptRanges", laid_unicode_utf8_acceptRanges), ("unicode/utf8.first", laid_unicode_utf8_first)], narrowed := true }
def FnCountPartsUptoSaid : Prop := fnCountPartsUptoRow.holds Tryd.pinned (OpenSpec.upto fnCountPartsSpec)

end Rows
end Go.Proofs.YtbomlhhpokknaaaDoor
