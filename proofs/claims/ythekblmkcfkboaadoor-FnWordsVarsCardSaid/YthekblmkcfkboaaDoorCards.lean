/-
  DERIVED. GIVEN WITH THE SEED: THE CARDS: each row of YthekblmkcfkboaaDoorRows.lean that lists a variable, with what it lists TIED to the program's text (the seventh form; the later family's looks); each row that meets fmt, with fmt's text TOLD by the authors' own Lean function (tested against real Go, not proved from fmt's source: count such statements apart). THE CARD IS WHAT COUNTS. Prove the row's statement (the work); the ties are given (YthekblmkcfkboaaDoorTie.lean); close each card by the builder's one call (the guide's Derived/Test/ToyasCard.lean, 'card_holds'). Laid BY PROGRAM, IN A SANDBOX (cutbox-door.mjs). By AI agents, Wed Nov 11 2026. No macro, syntax, notation, axiom, sorry.
-/
import Derived.Test.YthekblmkcfkboaaDoorRows
import GoSem.ClaimSeven
namespace Go.Proofs.YthekblmkcfkboaaDoor
namespace Rows

/-- THE TIED CARD OF 'laws.FnWordsBare'. -/
def fnWordsBareCard : Claim7 := { stood := { row := fnWordsBareRow, standIns := [], harness := (true, "3b29057490af3db26b1dc450b2df14284fb503b4e417020671b7ae01e4853804"), looks := false }, kinds := [], alts := [], laidByText := true, laidKinds := [.data, .sentinel, .pinned, .pinned], laidTests := true, laidLooks := .later }
def FnWordsBareCardSaid : Prop := Claim7.holds Tryd.pinned (.plain (OpenSpec.ofChange fnWordsBareSpec)) fnWordsBareCard

/-- THE TIED CARD OF 'laws.FnWordsComment'. -/
def fnWordsCommentCard : Claim7 := { stood := { row := fnWordsCommentRow, standIns := [], harness := (true, "3b29057490af3db26b1dc450b2df14284fb503b4e417020671b7ae01e4853804"), looks := false }, kinds := [], alts := [], laidByText := true, laidKinds := [.data, .sentinel, .pinned, .pinned], laidTests := true, laidLooks := .later }
def FnWordsCommentCardSaid : Prop := Claim7.holds Tryd.pinned (.plain (OpenSpec.ofChange fnWordsCommentSpec)) fnWordsCommentCard

/-- THE TIED CARD OF 'laws.FnWordsDouble'. -/
def fnWordsDoubleCard : Claim7 := { stood := { row := fnWordsDoubleRow, standIns := [], harness := (true, "3b29057490af3db26b1dc450b2df14284fb503b4e417020671b7ae01e4853804"), looks := false }, kinds := [], alts := [], laidByText := true, laidKinds := [.data, .sentinel, .pinned, .pinned], laidTests := true, laidLooks := .later }
def FnWordsDoubleCardSaid : Prop := Claim7.holds Tryd.pinned (.plain (OpenSpec.ofChange fnWordsDoubleSpec)) fnWordsDoubleCard

/-- THE TIED CARD OF 'laws.FnWordsJoined'. -/
def fnWordsJoinedCard : Claim7 := { stood := { row := fnWordsJoinedRow, standIns := [], harness := (true, "3b29057490af3db26b1dc450b2df14284fb503b4e417020671b7ae01e4853804"), looks := false }, kinds := [], alts := [], laidByText := true, laidKinds := [.data, .sentinel, .pinned, .pinned], laidTests := true, laidLooks := .later }
def FnWordsJoinedCardSaid : Prop := Claim7.holds Tryd.pinned (.plain (OpenSpec.ofChange fnWordsJoinedSpec)) fnWordsJoinedCard

/-- THE TIED CARD OF 'laws.FnWordsKeep'. -/
def fnWordsKeepCard : Claim7 := { stood := { row := fnWordsKeepRow, standIns := [], harness := (true, "3b29057490af3db26b1dc450b2df14284fb503b4e417020671b7ae01e4853804"), looks := false }, kinds := [], alts := [], laidByText := true, laidKinds := [.data, .sentinel, .pinned, .pinned], laidTests := true, laidLooks := .later }
def FnWordsKeepCardSaid : Prop := Claim7.holds Tryd.pinned (.plain (OpenSpec.ofChange fnWordsKeepSpec)) fnWordsKeepCard

/-- THE TIED CARD OF 'laws.FnWordsVars'. -/
def fnWordsVarsCard : Claim7 := { stood := { row := fnWordsVarsRow, standIns := [], harness := (true, "3b29057490af3db26b1dc450b2df14284fb503b4e417020671b7ae01e4853804"), looks := false }, kinds := [], alts := [], laidByText := true, laidKinds := [.data, .sentinel, .pinned, .pinned], laidTests := true, laidLooks := .later }
def FnWordsVarsCardSaid : Prop := Claim7.holds Tryd.pinned (.plain (OpenSpec.ofChange fnWordsVarsSpec)) fnWordsVarsCard

/-- THE TIED CARD OF 'laws.FnWordsAssigned'. -/
def fnWordsAssignedCard : Claim7 := { stood := { row := fnWordsAssignedRow, standIns := [], harness := (true, "3b29057490af3db26b1dc450b2df14284fb503b4e417020671b7ae01e4853804"), looks := false }, kinds := [], alts := [], laidByText := true, laidKinds := [.data, .sentinel, .pinned, .pinned], laidTests := true, laidLooks := .later }
def FnWordsAssignedCardSaid : Prop := Claim7.holds Tryd.pinned (.plain (OpenSpec.ofChange fnWordsAssignedSpec)) fnWordsAssignedCard

/-- THE SECOND FORM's CARD OF 'laws.FnWordsBare'. -/
def fnWordsBareUptoCard : Claim7 := { stood := { row := fnWordsBareUptoRow, standIns := [], harness := (true, "3b29057490af3db26b1dc450b2df14284fb503b4e417020671b7ae01e4853804"), looks := false }, kinds := [], alts := [], laidByText := true, laidKinds := [.data, .sentinel, .pinned, .pinned], laidTests := true, laidLooks := .later }
def FnWordsBareUptoCardSaid : Prop := Claim7.holds Tryd.pinned (.plain (OpenSpec.upto fnWordsBareSpec)) fnWordsBareUptoCard

/-- THE SECOND FORM's CARD OF 'laws.FnWordsComment'. -/
def fnWordsCommentUptoCard : Claim7 := { stood := { row := fnWordsCommentUptoRow, standIns := [], harness := (true, "3b29057490af3db26b1dc450b2df14284fb503b4e417020671b7ae01e4853804"), looks := false }, kinds := [], alts := [], laidByText := true, laidKinds := [.data, .sentinel, .pinned, .pinned], laidTests := true, laidLooks := .later }
def FnWordsCommentUptoCardSaid : Prop := Claim7.holds Tryd.pinned (.plain (OpenSpec.upto fnWordsCommentSpec)) fnWordsCommentUptoCard

/-- THE SECOND FORM's CARD OF 'laws.FnWordsDouble'. -/
def fnWordsDoubleUptoCard : Claim7 := { stood := { row := fnWordsDoubleUptoRow, standIns := [], harness := (true, "3b29057490af3db26b1dc450b2df14284fb503b4e417020671b7ae01e4853804"), looks := false }, kinds := [], alts := [], laidByText := true, laidKinds := [.data, .sentinel, .pinned, .pinned], laidTests := true, laidLooks := .later }
def FnWordsDoubleUptoCardSaid : Prop := Claim7.holds Tryd.pinned (.plain (OpenSpec.upto fnWordsDoubleSpec)) fnWordsDoubleUptoCard

/-- THE SECOND FORM's CARD OF 'laws.FnWordsJoined'. -/
def fnWordsJoinedUptoCard : Claim7 := { stood := { row := fnWordsJoinedUptoRow, standIns := [], harness := (true, "3b29057490af3db26b1dc450b2df14284fb503b4e417020671b7ae01e4853804"), looks := false }, kinds := [], alts := [], laidByText := true, laidKinds := [.data, .sentinel, .pinned, .pinned], laidTests := true, laidLooks := .later }
def FnWordsJoinedUptoCardSaid : Prop := Claim7.holds Tryd.pinned (.plain (OpenSpec.upto fnWordsJoinedSpec)) fnWordsJoinedUptoCard

/-- THE SECOND FORM's CARD OF 'laws.FnWordsKeep'. -/
def fnWordsKeepUptoCard : Claim7 := { stood := { row := fnWordsKeepUptoRow, standIns := [], harness := (true, "3b29057490af3db26b1dc450b2df14284fb503b4e417020671b7ae01e4853804"), looks := false }, kinds := [], alts := [], laidByText := true, laidKinds := [.data, .sentinel, .pinned, .pinned], laidTests := true, laidLooks := .later }
def FnWordsKeepUptoCardSaid : Prop := Claim7.holds Tryd.pinned (.plain (OpenSpec.upto fnWordsKeepSpec)) fnWordsKeepUptoCard

/-- THE SECOND FORM's CARD OF 'laws.FnWordsVars'. -/
def fnWordsVarsUptoCard : Claim7 := { stood := { row := fnWordsVarsUptoRow, standIns := [], harness := (true, "3b29057490af3db26b1dc450b2df14284fb503b4e417020671b7ae01e4853804"), looks := false }, kinds := [], alts := [], laidByText := true, laidKinds := [.data, .sentinel, .pinned, .pinned], laidTests := true, laidLooks := .later }
def FnWordsVarsUptoCardSaid : Prop := Claim7.holds Tryd.pinned (.plain (OpenSpec.upto fnWordsVarsSpec)) fnWordsVarsUptoCard

/-- THE SECOND FORM's CARD OF 'laws.FnWordsAssigned'. -/
def fnWordsAssignedUptoCard : Claim7 := { stood := { row := fnWordsAssignedUptoRow, standIns := [], harness := (true, "3b29057490af3db26b1dc450b2df14284fb503b4e417020671b7ae01e4853804"), looks := false }, kinds := [], alts := [], laidByText := true, laidKinds := [.data, .sentinel, .pinned, .pinned], laidTests := true, laidLooks := .later }
def FnWordsAssignedUptoCardSaid : Prop := Claim7.holds Tryd.pinned (.plain (OpenSpec.upto fnWordsAssignedSpec)) fnWordsAssignedUptoCard
end Rows
end Go.Proofs.YthekblmkcfkboaaDoor
