/-
  NARROWER THAN 'FOR EVERY INPUT', by the rows' own cells (each row's printed sentence says how): FnWordsBare: laid · FnWordsComment: laid · FnWordsDouble: laid · FnWordsJoined: laid · FnWordsKeep: laid · FnWordsVars: laid · FnWordsAssigned: laid.
  DERIVED. THE GIVEN ROWS OF THIS SEAT. 7 by the template 'for every input the law returns true; each argument reads behind the call as it read before'; 0 by the template 'total and deterministic' (their statements: YthekblmkcfkboaaDoorTotals.lean).
  GIVEN WITH THE SEED: the statements are not yours to turn. If you find one false, say at which input.
  Laid BY PROGRAM, IN A SANDBOX (cutbox-rows.mjs): the forced cells as the released guide's own fill.sh prints them over the translation 33554fa5a01fda96… (all of the seat's roots in one cut). By AI agents, Wed Nov 11 2026. No macro, syntax, notation, axiom, sorry.
-/
import Derived.Test.YthekblmkcfkboaaDoorChecked
import GoSem.PinnedTables
import GoSem.Claim
import GoSem.ClaimJoined
import GoSem.ClaimMapViews
import Derived.JoinedTies
import Derived.KernelRfl
namespace Go.Proofs.YthekblmkcfkboaaDoor
/- THE CELL 'sum', in the pinned program and in every row, IS THE sha256 OF THE DUMP (.gsa) THAT YthekblmkcfkboaaDoorProg.lean LOADS. Nothing in Lean hashes anything: it is a label: what it is worth is what the hold of that sum in a sandbox is worth. -/
noncomputable def Tryd.pinned : Pinned := { name := "ythekblmkcfkboaadoor", sum := "33554fa5a01fda96c5553c3d602112b060e2161dd6c2ea9209cb58b46a012139", checked := Tryd.checked }
namespace Rows
def none {H : Type} : Left H := { results := [], args := [] }

/- WHAT THE LISTED PACKAGE-LEVEL VARIABLES READ AS WHEN THE CALL BEGINS. Each datum BY PROGRAM (the guide's laid-datum.mjs) off the statement by which the dump's own 'gosem.cut.vars' lays the variable. In a bare row this is a premise. The card (YthekblmkcfkboaaDoorCards.lean) ties it to the program's text. -/
def laid_unicode_properties {H : Type} : DataW H := .agg [.lit (.int .u8 1), .lit (.int .u8 1), .lit (.int .u8 1), .lit (.int .u8 1), .lit (.int .u8 1), .lit (.int .u8 1), .lit (.int .u8 1), .lit (.int .u8 1), .lit (.int .u8 1), .lit (.int .u8 1), .lit (.int .u8 1), .lit (.int .u8 1), .lit (.int .u8 1), .lit (.int .u8 1), .lit (.int .u8 1), .lit (.int .u8 1), .lit (.int .u8 1), .lit (.int .u8 1), .lit (.int .u8 1), .lit (.int .u8 1), .lit (.int .u8 1), .lit (.int .u8 1), .lit (.int .u8 1), .lit (.int .u8 1), .lit (.int .u8 1), .lit (.int .u8 1), .lit (.int .u8 1), .lit (.int .u8 1), .lit (.int .u8 1), .lit (.int .u8 1), .lit (.int .u8 1), .lit (.int .u8 1), .lit (.int .u8 144), .lit (.int .u8 130), .lit (.int .u8 130), .lit (.int .u8 130), .lit (.int .u8 136), .lit (.int .u8 130), .lit (.int .u8 130), .lit (.int .u8 130), .lit (.int .u8 130), .lit (.int .u8 130), .lit (.int .u8 130), .lit (.int .u8 136), .lit (.int .u8 130), .lit (.int .u8 130), .lit (.int .u8 130), .lit (.int .u8 130), .lit (.int .u8 132), .lit (.int .u8 132), .lit (.int .u8 132), .lit (.int .u8 132), .lit (.int .u8 132), .lit (.int .u8 132), .lit (.int .u8 132), .lit (.int .u8 132), .lit (.int .u8 132), .lit (.int .u8 132), .lit (.int .u8 130), .lit (.int .u8 130), .lit (.int .u8 136), .lit (.int .u8 136), .lit (.int .u8 136), .lit (.int .u8 130), .lit (.int .u8 130), .lit (.int .u8 160), .lit (.int .u8 160), .lit (.int .u8 160), .lit (.int .u8 160), .lit (.int .u8 160), .lit (.int .u8 160), .lit (.int .u8 160), .lit (.int .u8 160), .lit (.int .u8 160), .lit (.int .u8 160), .lit (.int .u8 160), .lit (.int .u8 160), .lit (.int .u8 160), .lit (.int .u8 160), .lit (.int .u8 160), .lit (.int .u8 160), .lit (.int .u8 160), .lit (.int .u8 160), .lit (.int .u8 160), .lit (.int .u8 160), .lit (.int .u8 160), .lit (.int .u8 160), .lit (.int .u8 160), .lit (.int .u8 160), .lit (.int .u8 160), .lit (.int .u8 160), .lit (.int .u8 130), .lit (.int .u8 130), .lit (.int .u8 130), .lit (.int .u8 136), .lit (.int .u8 130), .lit (.int .u8 136), .lit (.int .u8 192), .lit (.int .u8 192), .lit (.int .u8 192), .lit (.int .u8 192), .lit (.int .u8 192), .lit (.int .u8 192), .lit (.int .u8 192), .lit (.int .u8 192), .lit (.int .u8 192), .lit (.int .u8 192), .lit (.int .u8 192), .lit (.int .u8 192), .lit (.int .u8 192), .lit (.int .u8 192), .lit (.int .u8 192), .lit (.int .u8 192), .lit (.int .u8 192), .lit (.int .u8 192), .lit (.int .u8 192), .lit (.int .u8 192), .lit (.int .u8 192), .lit (.int .u8 192), .lit (.int .u8 192), .lit (.int .u8 192), .lit (.int .u8 192), .lit (.int .u8 192), .lit (.int .u8 130), .lit (.int .u8 136), .lit (.int .u8 130), .lit (.int .u8 136), .lit (.int .u8 1), .lit (.int .u8 1), .lit (.int .u8 1), .lit (.int .u8 1), .lit (.int .u8 1), .lit (.int .u8 1), .lit (.int .u8 1), .lit (.int .u8 1), .lit (.int .u8 1), .lit (.int .u8 1), .lit (.int .u8 1), .lit (.int .u8 1), .lit (.int .u8 1), .lit (.int .u8 1), .lit (.int .u8 1), .lit (.int .u8 1), .lit (.int .u8 1), .lit (.int .u8 1), .lit (.int .u8 1), .lit (.int .u8 1), .lit (.int .u8 1), .lit (.int .u8 1), .lit (.int .u8 1), .lit (.int .u8 1), .lit (.int .u8 1), .lit (.int .u8 1), .lit (.int .u8 1), .lit (.int .u8 1), .lit (.int .u8 1), .lit (.int .u8 1), .lit (.int .u8 1), .lit (.int .u8 1), .lit (.int .u8 1), .lit (.int .u8 16), .lit (.int .u8 130), .lit (.int .u8 136), .lit (.int .u8 136), .lit (.int .u8 136), .lit (.int .u8 136), .lit (.int .u8 136), .lit (.int .u8 130), .lit (.int .u8 136), .lit (.int .u8 136), .lit (.int .u8 224), .lit (.int .u8 130), .lit (.int .u8 136), .lit (.int .u8 0), .lit (.int .u8 136), .lit (.int .u8 136), .lit (.int .u8 136), .lit (.int .u8 136), .lit (.int .u8 132), .lit (.int .u8 132), .lit (.int .u8 136), .lit (.int .u8 192), .lit (.int .u8 130), .lit (.int .u8 130), .lit (.int .u8 136), .lit (.int .u8 132), .lit (.int .u8 224), .lit (.int .u8 130), .lit (.int .u8 132), .lit (.int .u8 132), .lit (.int .u8 132), .lit (.int .u8 130), .lit (.int .u8 160), .lit (.int .u8 160), .lit (.int .u8 160), .lit (.int .u8 160), .lit (.int .u8 160), .lit (.int .u8 160), .lit (.int .u8 160), .lit (.int .u8 160), .lit (.int .u8 160), .lit (.int .u8 160), .lit (.int .u8 160), .lit (.int .u8 160), .lit (.int .u8 160), .lit (.int .u8 160), .lit (.int .u8 160), .lit (.int .u8 160), .lit (.int .u8 160), .lit (.int .u8 160), .lit (.int .u8 160), .lit (.int .u8 160), .lit (.int .u8 160), .lit (.int .u8 160), .lit (.int .u8 160), .lit (.int .u8 136), .lit (.int .u8 160), .lit (.int .u8 160), .lit (.int .u8 160), .lit (.int .u8 160), .lit (.int .u8 160), .lit (.int .u8 160), .lit (.int .u8 160), .lit (.int .u8 192), .lit (.int .u8 192), .lit (.int .u8 192), .lit (.int .u8 192), .lit (.int .u8 192), .lit (.int .u8 192), .lit (.int .u8 192), .lit (.int .u8 192), .lit (.int .u8 192), .lit (.int .u8 192), .lit (.int .u8 192), .lit (.int .u8 192), .lit (.int .u8 192), .lit (.int .u8 192), .lit (.int .u8 192), .lit (.int .u8 192), .lit (.int .u8 192), .lit (.int .u8 192), .lit (.int .u8 192), .lit (.int .u8 192), .lit (.int .u8 192), .lit (.int .u8 192), .lit (.int .u8 192), .lit (.int .u8 192), .lit (.int .u8 136), .lit (.int .u8 192), .lit (.int .u8 192), .lit (.int .u8 192), .lit (.int .u8 192), .lit (.int .u8 192), .lit (.int .u8 192), .lit (.int .u8 192), .lit (.int .u8 192)]
def laid_pub_pencraft_pub_shellwords_errInvalidCmdLine {H : Type} : DataW H := .iface "*errors.errorString" (.ptr (.agg [.lit (.string [105, 110, 118, 97, 108, 105, 100, 32, 99, 111, 109, 109, 97, 110, 100, 32, 108, 105, 110, 101, 32, 115, 116, 114, 105, 110, 103])]))
/-- One of Go's own tables, pinned by name: the form's constant. -/
def laid_unicode_Digit : DataW Unit := Go.Pinned.digit
/-- One of Go's own tables, pinned by name: the form's constant. -/
def laid_unicode_Letter : DataW Unit := Go.Pinned.letter

/-- 'laws.FnWordsBare': WHATEVER THE INPUT: true; the input reads as it did. -/
def fnWordsBareSpec : ChangeSpec := { name := "fnWordsBare", fn := fun _ => fun
  | [d1, d2] => { results := [.lit (.bool true)], args := [d1, d2] }
  | _ => none }
def fnWordsBareRow : OpenClaim := { program := "ythekblmkcfkboaadoor", sum := "33554fa5a01fda96c5553c3d602112b060e2161dd6c2ea9209cb58b46a012139", func := "pub-pencraft/laws.FnWordsBare", spec := "fnWordsBare", unfollowed := true, recurses := true, named := ["pub-pencraft/pub/shellwords.errInvalidCmdLine", "unicode.properties", "unicode.Letter", "unicode.Digit"], apart := false, laid := [("unicode.properties", laid_unicode_properties), ("pub-pencraft/pub/shellwords.errInvalidCmdLine", laid_pub_pencraft_pub_shellwords_errInvalidCmdLine), ("unicode.Digit", laid_unicode_Digit), ("unicode.Letter", laid_unicode_Letter)] }
def FnWordsBareSaid : Prop := fnWordsBareRow.holds Tryd.pinned (OpenSpec.ofChange fnWordsBareSpec)

/-- ITS FALSE NEIGHBOUR: 'it returns false'. Refute it at one input. -/
def fnWordsBareWrong : ChangeSpec := { name := "fnWordsBare", fn := fun _ => fun
  | [d1, d2] => { results := [.lit (.bool false)], args := [d1, d2] }
  | _ => none }
def FnWordsBareWrongFalsely : Prop := fnWordsBareRow.holds Tryd.pinned (OpenSpec.ofChange fnWordsBareWrong)

/-- 'laws.FnWordsComment': WHATEVER THE INPUT: true; the input reads as it did. -/
def fnWordsCommentSpec : ChangeSpec := { name := "fnWordsComment", fn := fun _ => fun
  | [d1, d2] => { results := [.lit (.bool true)], args := [d1, d2] }
  | _ => none }
def fnWordsCommentRow : OpenClaim := { program := "ythekblmkcfkboaadoor", sum := "33554fa5a01fda96c5553c3d602112b060e2161dd6c2ea9209cb58b46a012139", func := "pub-pencraft/laws.FnWordsComment", spec := "fnWordsComment", unfollowed := true, recurses := true, named := ["pub-pencraft/pub/shellwords.errInvalidCmdLine", "unicode.properties", "unicode.Letter", "unicode.Digit"], apart := false, laid := [("unicode.properties", laid_unicode_properties), ("pub-pencraft/pub/shellwords.errInvalidCmdLine", laid_pub_pencraft_pub_shellwords_errInvalidCmdLine), ("unicode.Digit", laid_unicode_Digit), ("unicode.Letter", laid_unicode_Letter)] }
def FnWordsCommentSaid : Prop := fnWordsCommentRow.holds Tryd.pinned (OpenSpec.ofChange fnWordsCommentSpec)

/-- ITS FALSE NEIGHBOUR: 'it returns false'. Refute it at one input. -/
def fnWordsCommentWrong : ChangeSpec := { name := "fnWordsComment", fn := fun _ => fun
  | [d1, d2] => { results := [.lit (.bool false)], args := [d1, d2] }
  | _ => none }
def FnWordsCommentWrongFalsely : Prop := fnWordsCommentRow.holds Tryd.pinned (OpenSpec.ofChange fnWordsCommentWrong)

/-- 'laws.FnWordsDouble': WHATEVER THE INPUT: true; the input reads as it did. -/
def fnWordsDoubleSpec : ChangeSpec := { name := "fnWordsDouble", fn := fun _ => fun
  | [d] => { results := [.lit (.bool true)], args := [d] }
  | _ => none }
def fnWordsDoubleRow : OpenClaim := { program := "ythekblmkcfkboaadoor", sum := "33554fa5a01fda96c5553c3d602112b060e2161dd6c2ea9209cb58b46a012139", func := "pub-pencraft/laws.FnWordsDouble", spec := "fnWordsDouble", unfollowed := true, recurses := true, named := ["pub-pencraft/pub/shellwords.errInvalidCmdLine", "unicode.properties", "unicode.Letter", "unicode.Digit"], apart := false, laid := [("unicode.properties", laid_unicode_properties), ("pub-pencraft/pub/shellwords.errInvalidCmdLine", laid_pub_pencraft_pub_shellwords_errInvalidCmdLine), ("unicode.Digit", laid_unicode_Digit), ("unicode.Letter", laid_unicode_Letter)] }
def FnWordsDoubleSaid : Prop := fnWordsDoubleRow.holds Tryd.pinned (OpenSpec.ofChange fnWordsDoubleSpec)

/-- ITS FALSE NEIGHBOUR: 'it returns false'. Refute it at one input. -/
def fnWordsDoubleWrong : ChangeSpec := { name := "fnWordsDouble", fn := fun _ => fun
  | [d] => { results := [.lit (.bool false)], args := [d] }
  | _ => none }
def FnWordsDoubleWrongFalsely : Prop := fnWordsDoubleRow.holds Tryd.pinned (OpenSpec.ofChange fnWordsDoubleWrong)

/-- 'laws.FnWordsJoined': WHATEVER THE INPUT: true; the input reads as it did. -/
def fnWordsJoinedSpec : ChangeSpec := { name := "fnWordsJoined", fn := fun _ => fun
  | [d1, d2] => { results := [.lit (.bool true)], args := [d1, d2] }
  | _ => none }
def fnWordsJoinedRow : OpenClaim := { program := "ythekblmkcfkboaadoor", sum := "33554fa5a01fda96c5553c3d602112b060e2161dd6c2ea9209cb58b46a012139", func := "pub-pencraft/laws.FnWordsJoined", spec := "fnWordsJoined", unfollowed := true, recurses := true, named := ["pub-pencraft/pub/shellwords.errInvalidCmdLine", "unicode.properties", "unicode.Letter", "unicode.Digit"], apart := false, laid := [("unicode.properties", laid_unicode_properties), ("pub-pencraft/pub/shellwords.errInvalidCmdLine", laid_pub_pencraft_pub_shellwords_errInvalidCmdLine), ("unicode.Digit", laid_unicode_Digit), ("unicode.Letter", laid_unicode_Letter)] }
def FnWordsJoinedSaid : Prop := fnWordsJoinedRow.holds Tryd.pinned (OpenSpec.ofChange fnWordsJoinedSpec)

/-- ITS FALSE NEIGHBOUR: 'it returns false'. Refute it at one input. -/
def fnWordsJoinedWrong : ChangeSpec := { name := "fnWordsJoined", fn := fun _ => fun
  | [d1, d2] => { results := [.lit (.bool false)], args := [d1, d2] }
  | _ => none }
def FnWordsJoinedWrongFalsely : Prop := fnWordsJoinedRow.holds Tryd.pinned (OpenSpec.ofChange fnWordsJoinedWrong)

/-- 'laws.FnWordsKeep': WHATEVER THE INPUT: true; the input reads as it did. -/
def fnWordsKeepSpec : ChangeSpec := { name := "fnWordsKeep", fn := fun _ => fun
  | [d1, d2] => { results := [.lit (.bool true)], args := [d1, d2] }
  | _ => none }
def fnWordsKeepRow : OpenClaim := { program := "ythekblmkcfkboaadoor", sum := "33554fa5a01fda96c5553c3d602112b060e2161dd6c2ea9209cb58b46a012139", func := "pub-pencraft/laws.FnWordsKeep", spec := "fnWordsKeep", unfollowed := true, recurses := true, named := ["pub-pencraft/pub/shellwords.errInvalidCmdLine", "unicode.properties", "unicode.Letter", "unicode.Digit"], apart := false, laid := [("unicode.properties", laid_unicode_properties), ("pub-pencraft/pub/shellwords.errInvalidCmdLine", laid_pub_pencraft_pub_shellwords_errInvalidCmdLine), ("unicode.Digit", laid_unicode_Digit), ("unicode.Letter", laid_unicode_Letter)] }
def FnWordsKeepSaid : Prop := fnWordsKeepRow.holds Tryd.pinned (OpenSpec.ofChange fnWordsKeepSpec)

/-- ITS FALSE NEIGHBOUR: 'it returns false'. Refute it at one input. -/
def fnWordsKeepWrong : ChangeSpec := { name := "fnWordsKeep", fn := fun _ => fun
  | [d1, d2] => { results := [.lit (.bool false)], args := [d1, d2] }
  | _ => none }
def FnWordsKeepWrongFalsely : Prop := fnWordsKeepRow.holds Tryd.pinned (OpenSpec.ofChange fnWordsKeepWrong)

/-- 'laws.FnWordsVars': WHATEVER THE INPUT: true; the input reads as it did. -/
def fnWordsVarsSpec : ChangeSpec := { name := "fnWordsVars", fn := fun _ => fun
  | [d1, d2] => { results := [.lit (.bool true)], args := [d1, d2] }
  | _ => none }
def fnWordsVarsRow : OpenClaim := { program := "ythekblmkcfkboaadoor", sum := "33554fa5a01fda96c5553c3d602112b060e2161dd6c2ea9209cb58b46a012139", func := "pub-pencraft/laws.FnWordsVars", spec := "fnWordsVars", unfollowed := true, recurses := true, named := ["pub-pencraft/pub/shellwords.errInvalidCmdLine", "unicode.properties", "unicode.Letter", "unicode.Digit"], apart := false, laid := [("unicode.properties", laid_unicode_properties), ("pub-pencraft/pub/shellwords.errInvalidCmdLine", laid_pub_pencraft_pub_shellwords_errInvalidCmdLine), ("unicode.Digit", laid_unicode_Digit), ("unicode.Letter", laid_unicode_Letter)] }
def FnWordsVarsSaid : Prop := fnWordsVarsRow.holds Tryd.pinned (OpenSpec.ofChange fnWordsVarsSpec)

/-- ITS FALSE NEIGHBOUR: 'it returns false'. Refute it at one input. -/
def fnWordsVarsWrong : ChangeSpec := { name := "fnWordsVars", fn := fun _ => fun
  | [d1, d2] => { results := [.lit (.bool false)], args := [d1, d2] }
  | _ => none }
def FnWordsVarsWrongFalsely : Prop := fnWordsVarsRow.holds Tryd.pinned (OpenSpec.ofChange fnWordsVarsWrong)

/-- 'laws.FnWordsAssigned': WHATEVER THE INPUT: true; the input reads as it did. -/
def fnWordsAssignedSpec : ChangeSpec := { name := "fnWordsAssigned", fn := fun _ => fun
  | [d1, d2] => { results := [.lit (.bool true)], args := [d1, d2] }
  | _ => none }
def fnWordsAssignedRow : OpenClaim := { program := "ythekblmkcfkboaadoor", sum := "33554fa5a01fda96c5553c3d602112b060e2161dd6c2ea9209cb58b46a012139", func := "pub-pencraft/laws.FnWordsAssigned", spec := "fnWordsAssigned", inPlace := ["internal/bytealg.IndexByteString"], unfollowed := true, recurses := true, named := ["pub-pencraft/pub/shellwords.errInvalidCmdLine", "unicode.properties", "unicode.Letter", "unicode.Digit"], apart := false, laid := [("unicode.properties", laid_unicode_properties), ("pub-pencraft/pub/shellwords.errInvalidCmdLine", laid_pub_pencraft_pub_shellwords_errInvalidCmdLine), ("unicode.Digit", laid_unicode_Digit), ("unicode.Letter", laid_unicode_Letter)] }
def FnWordsAssignedSaid : Prop := fnWordsAssignedRow.holds Tryd.pinned (OpenSpec.ofChange fnWordsAssignedSpec)

/-- ITS FALSE NEIGHBOUR: 'it returns false'. Refute it at one input. -/
def fnWordsAssignedWrong : ChangeSpec := { name := "fnWordsAssigned", fn := fun _ => fun
  | [d1, d2] => { results := [.lit (.bool false)], args := [d1, d2] }
  | _ => none }
def FnWordsAssignedWrongFalsely : Prop := fnWordsAssignedRow.holds Tryd.pinned (OpenSpec.ofChange fnWordsAssignedWrong)

/- THE SECOND FORM. 'bulk': how many values and letters a reading holds, each counted each time it is reached (what is shared counts as often as it is met; a slice's spare places count too). A statement '..UptoSaid' is the law's where the arguments, and the package variables that the reading takes, are together of bulk at most 1048576: NARROWER than '..Said'. Prove '..Said' where nothing that the law and all that it calls make is longer than what came in: it says more and counts as full. Else prove '..UptoSaid'. A law counts once. -/
mutual
def uptoBulk {H : Type} : DataW H → Nat
  | .lit (.string bytes) => bytes.length + 1
  | .lit _ => 1
  | .nil => 1
  | .ptr d => uptoBulk d + 1
  | .slice elems spare => uptoBulkAll elems + uptoBulkAll spare + 1
  | .agg parts => uptoBulkAll parts + 1
  | .iface _ d => uptoBulk d + 1
  | .map entries => uptoBulkEntries entries + 1
  | .held _ => 1
def uptoBulkAll {H : Type} : List (DataW H) → Nat
  | [] => 0
  | d :: r => uptoBulk d + uptoBulkAll r
def uptoBulkEntries {H : Type} : List (Lit × DataW H) → Nat
  | [] => 0
  | x :: r => uptoBulkEntry x + uptoBulkEntries r
def uptoBulkEntry {H : Type} : Lit × DataW H → Nat
  | (.string bytes, d) => bytes.length + uptoBulk d + 1
  | (_, d) => uptoBulk d + 1
 end
def uptoSmall : (H : Type) → List (DataW H) → Bool := fun _ ds => decide (uptoBulkAll ds ≤ 1048576)
def OpenSpec.upto (s : _root_.Go.ChangeSpec) : _root_.Go.OpenSpec := { _root_.Go.OpenSpec.ofChange s with cond := some uptoSmall }

/-- 'laws.FnWordsBare', WHERE WHAT IT READS IS OF BULK AT MOST 1048576: true; the input reads as it did. -/
def fnWordsBareUptoRow : OpenClaim := { program := "ythekblmkcfkboaadoor", sum := "33554fa5a01fda96c5553c3d602112b060e2161dd6c2ea9209cb58b46a012139", func := "pub-pencraft/laws.FnWordsBare", spec := "fnWordsBare", unfollowed := true, recurses := true, named := ["pub-pencraft/pub/shellwords.errInvalidCmdLine", "unicode.properties", "unicode.Letter", "unicode.Digit"], apart := false, laid := [("unicode.properties", laid_unicode_properties), ("pub-pencraft/pub/shellwords.errInvalidCmdLine", laid_pub_pencraft_pub_shellwords_errInvalidCmdLine), ("unicode.Digit", laid_unicode_Digit), ("unicode.Letter", laid_unicode_Letter)], narrowed := true }
def FnWordsBareUptoSaid : Prop := fnWordsBareUptoRow.holds Tryd.pinned (OpenSpec.upto fnWordsBareSpec)

/-- 'laws.FnWordsComment', WHERE WHAT IT READS IS OF BULK AT MOST 1048576: true; the input reads as it did. -/
def fnWordsCommentUptoRow : OpenClaim := { program := "ythekblmkcfkboaadoor", sum := "33554fa5a01fda96c5553c3d602112b060e2161dd6c2ea9209cb58b46a012139", func := "pub-pencraft/laws.FnWordsComment", spec := "fnWordsComment", unfollowed := true, recurses := true, named := ["pub-pencraft/pub/shellwords.errInvalidCmdLine", "unicode.properties", "unicode.Letter", "unicode.Digit"], apart := false, laid := [("unicode.properties", laid_unicode_properties), ("pub-pencraft/pub/shellwords.errInvalidCmdLine", laid_pub_pencraft_pub_shellwords_errInvalidCmdLine), ("unicode.Digit", laid_unicode_Digit), ("unicode.Letter", laid_unicode_Letter)], narrowed := true }
def FnWordsCommentUptoSaid : Prop := fnWordsCommentUptoRow.holds Tryd.pinned (OpenSpec.upto fnWordsCommentSpec)

/-- 'laws.FnWordsDouble', WHERE WHAT IT READS IS OF BULK AT MOST 1048576: true; the input reads as it did. -/
def fnWordsDoubleUptoRow : OpenClaim := { program := "ythekblmkcfkboaadoor", sum := "33554fa5a01fda96c5553c3d602112b060e2161dd6c2ea9209cb58b46a012139", func := "pub-pencraft/laws.FnWordsDouble", spec := "fnWordsDouble", unfollowed := true, recurses := true, named := ["pub-pencraft/pub/shellwords.errInvalidCmdLine", "unicode.properties", "unicode.Letter", "unicode.Digit"], apart := false, laid := [("unicode.properties", laid_unicode_properties), ("pub-pencraft/pub/shellwords.errInvalidCmdLine", laid_pub_pencraft_pub_shellwords_errInvalidCmdLine), ("unicode.Digit", laid_unicode_Digit), ("unicode.Letter", laid_unicode_Letter)], narrowed := true }
def FnWordsDoubleUptoSaid : Prop := fnWordsDoubleUptoRow.holds Tryd.pinned (OpenSpec.upto fnWordsDoubleSpec)

/-- 'laws.FnWordsJoined', WHERE WHAT IT READS IS OF BULK AT MOST 1048576: true; the input reads as it did. -/
def fnWordsJoinedUptoRow : OpenClaim := { program := "ythekblmkcfkboaadoor", sum := "33554fa5a01fda96c5553c3d602112b060e2161dd6c2ea9209cb58b46a012139", func := "pub-pencraft/laws.FnWordsJoined", spec := "fnWordsJoined", unfollowed := true, recurses := true, named := ["pub-pencraft/pub/shellwords.errInvalidCmdLine", "unicode.properties", "unicode.Letter", "unicode.Digit"], apart := false, laid := [("unicode.properties", laid_unicode_properties), ("pub-pencraft/pub/shellwords.errInvalidCmdLine", laid_pub_pencraft_pub_shellwords_errInvalidCmdLine), ("unicode.Digit", laid_unicode_Digit), ("unicode.Letter", laid_unicode_Letter)], narrowed := true }
def FnWordsJoinedUptoSaid : Prop := fnWordsJoinedUptoRow.holds Tryd.pinned (OpenSpec.upto fnWordsJoinedSpec)

/-- 'laws.FnWordsKeep', WHERE WHAT IT READS IS OF BULK AT MOST 1048576: true; the input reads as it did. -/
def fnWordsKeepUptoRow : OpenClaim := { program := "ythekblmkcfkboaadoor", sum := "33554fa5a01fda96c5553c3d602112b060e2161dd6c2ea9209cb58b46a012139", func := "pub-pencraft/laws.FnWordsKeep", spec := "fnWordsKeep", unfollowed := true, recurses := true, named := ["pub-pencraft/pub/shellwords.errInvalidCmdLine", "unicode.properties", "unicode.Letter", "unicode.Digit"], apart := false, laid := [("unicode.properties", laid_unicode_properties), ("pub-pencraft/pub/shellwords.errInvalidCmdLine", laid_pub_pencraft_pub_shellwords_errInvalidCmdLine), ("unicode.Digit", laid_unicode_Digit), ("unicode.Letter", laid_unicode_Letter)], narrowed := true }
def FnWordsKeepUptoSaid : Prop := fnWordsKeepUptoRow.holds Tryd.pinned (OpenSpec.upto fnWordsKeepSpec)

/-- 'laws.FnWordsVars', WHERE WHAT IT READS IS OF BULK AT MOST 1048576: true; the input reads as it did. -/
def fnWordsVarsUptoRow : OpenClaim := { program := "ythekblmkcfkboaadoor", sum := "33554fa5a01fda96c5553c3d602112b060e2161dd6c2ea9209cb58b46a012139", func := "pub-pencraft/laws.FnWordsVars", spec := "fnWordsVars", unfollowed := true, recurses := true, named := ["pub-pencraft/pub/shellwords.errInvalidCmdLine", "unicode.properties", "unicode.Letter", "unicode.Digit"], apart := false, laid := [("unicode.properties", laid_unicode_properties), ("pub-pencraft/pub/shellwords.errInvalidCmdLine", laid_pub_pencraft_pub_shellwords_errInvalidCmdLine), ("unicode.Digit", laid_unicode_Digit), ("unicode.Letter", laid_unicode_Letter)], narrowed := true }
def FnWordsVarsUptoSaid : Prop := fnWordsVarsUptoRow.holds Tryd.pinned (OpenSpec.upto fnWordsVarsSpec)

/-- 'laws.FnWordsAssigned', WHERE WHAT IT READS IS OF BULK AT MOST 1048576: true; the input reads as it did. -/
def fnWordsAssignedUptoRow : OpenClaim := { program := "ythekblmkcfkboaadoor", sum := "33554fa5a01fda96c5553c3d602112b060e2161dd6c2ea9209cb58b46a012139", func := "pub-pencraft/laws.FnWordsAssigned", spec := "fnWordsAssigned", inPlace := ["internal/bytealg.IndexByteString"], unfollowed := true, recurses := true, named := ["pub-pencraft/pub/shellwords.errInvalidCmdLine", "unicode.properties", "unicode.Letter", "unicode.Digit"], apart := false, laid := [("unicode.properties", laid_unicode_properties), ("pub-pencraft/pub/shellwords.errInvalidCmdLine", laid_pub_pencraft_pub_shellwords_errInvalidCmdLine), ("unicode.Digit", laid_unicode_Digit), ("unicode.Letter", laid_unicode_Letter)], narrowed := true }
def FnWordsAssignedUptoSaid : Prop := fnWordsAssignedUptoRow.holds Tryd.pinned (OpenSpec.upto fnWordsAssignedSpec)

end Rows
end Go.Proofs.YthekblmkcfkboaaDoor
