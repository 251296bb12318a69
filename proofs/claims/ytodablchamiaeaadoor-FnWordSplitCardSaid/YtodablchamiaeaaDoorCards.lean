/-
  DERIVED. GIVEN WITH THE SEED: THE CARDS: each row of YtodablchamiaeaaDoorRows.lean that lists a variable, with what it lists TIED to the program's text (the seventh form; the later family's looks); each row that meets fmt, with fmt's text TOLD by the authors' own Lean function (tested against real Go, not proved from fmt's source: count such statements apart). THE CARD IS WHAT COUNTS. Prove the row's statement (the work); the ties are given (YtodablchamiaeaaDoorTie.lean); close each card by the builder's one call (the guide's Derived/Test/ToyasCard.lean, 'card_holds'). Laid BY PROGRAM, IN A SANDBOX (cutbox-door.mjs). By AI agents, Wed Nov 11 2026. No macro, syntax, notation, axiom, sorry.
-/
import Derived.Test.YtodablchamiaeaaDoorRows
import GoSem.ClaimSeven
namespace Go.Proofs.YtodablchamiaeaaDoor
namespace Rows

/-- THE TIED CARD OF 'laws.FnReverse'. -/
def fnReverseCard : Claim7 := { stood := { row := fnReverseRow, standIns := [], harness := (true, "16d22969bf6f3ce07df6cded8601507bfcbdfa8cfa0e653e73ddbb66fdb06e26"), looks := false }, kinds := [], alts := [], laidByText := true, laidKinds := [.data, .pinned], laidTests := true, laidLooks := .later }
def FnReverseCardSaid : Prop := Claim7.holds Tryd.pinned (.plain (OpenSpec.ofChange fnReverseSpec)) fnReverseCard

/-- THE TIED CARD OF 'laws.FnReverseJoined'. -/
def fnReverseJoinedCard : Claim7 := { stood := { row := fnReverseJoinedRow, standIns := [], harness := (true, "16d22969bf6f3ce07df6cded8601507bfcbdfa8cfa0e653e73ddbb66fdb06e26"), looks := false }, kinds := [], alts := [], laidByText := true, laidKinds := [.data, .pinned], laidTests := true, laidLooks := .later }
def FnReverseJoinedCardSaid : Prop := Claim7.holds Tryd.pinned (.plain (OpenSpec.ofChange fnReverseJoinedSpec)) fnReverseJoinedCard

/-- THE TIED CARD OF 'laws.FnScrub'. -/
def fnScrubCard : Claim7 := { stood := { row := fnScrubRow, standIns := [], harness := (true, "16d22969bf6f3ce07df6cded8601507bfcbdfa8cfa0e653e73ddbb66fdb06e26"), looks := false }, kinds := [], alts := [], laidByText := true, laidKinds := [.data, .pinned], laidTests := true, laidLooks := .later }
def FnScrubCardSaid : Prop := Claim7.holds Tryd.pinned (.plain (OpenSpec.ofChange fnScrubSpec)) fnScrubCard

/-- THE TIED CARD OF 'laws.FnWidth'. -/
def fnWidthCard : Claim7 := { stood := { row := fnWidthRow, standIns := [], harness := (true, "16d22969bf6f3ce07df6cded8601507bfcbdfa8cfa0e653e73ddbb66fdb06e26"), looks := false }, kinds := [], alts := [], laidByText := true, laidKinds := [.data, .pinned], laidTests := true, laidLooks := .later }
def FnWidthCardSaid : Prop := Claim7.holds Tryd.pinned (.plain (OpenSpec.ofChange fnWidthSpec)) fnWidthCard

/-- THE TIED CARD OF 'laws.FnSliceParts'. -/
def fnSlicePartsCard : Claim7 := { stood := { row := fnSlicePartsRow, standIns := [], harness := (true, "16d22969bf6f3ce07df6cded8601507bfcbdfa8cfa0e653e73ddbb66fdb06e26"), looks := false }, kinds := [], alts := [], laidByText := true, laidKinds := [.data, .pinned], laidTests := true, laidLooks := .later }
def FnSlicePartsCardSaid : Prop := Claim7.holds Tryd.pinned (.plain (OpenSpec.ofChange fnSlicePartsSpec)) fnSlicePartsCard

/-- THE TIED CARD OF 'laws.FnInsertBack'. -/
def fnInsertBackCard : Claim7 := { stood := { row := fnInsertBackRow, standIns := [], harness := (true, "16d22969bf6f3ce07df6cded8601507bfcbdfa8cfa0e653e73ddbb66fdb06e26"), looks := false }, kinds := [], alts := [], laidByText := true, laidKinds := [.data, .pinned], laidTests := true, laidLooks := .later }
def FnInsertBackCardSaid : Prop := Claim7.holds Tryd.pinned (.plain (OpenSpec.ofChange fnInsertBackSpec)) fnInsertBackCard

/-- THE TIED CARD OF 'laws.FnLeftJustify'. -/
def fnLeftJustifyCard : Claim7 := { stood := { row := fnLeftJustifyRow, standIns := [], harness := (true, "16d22969bf6f3ce07df6cded8601507bfcbdfa8cfa0e653e73ddbb66fdb06e26"), looks := false }, kinds := [], alts := [], laidByText := true, laidKinds := [.data, .pinned], laidTests := true, laidLooks := .later }
def FnLeftJustifyCardSaid : Prop := Claim7.holds Tryd.pinned (.plain (OpenSpec.ofChange fnLeftJustifySpec)) fnLeftJustifyCard

/-- THE TIED CARD OF 'laws.FnCenter'. -/
def fnCenterCard : Claim7 := { stood := { row := fnCenterRow, standIns := [], harness := (true, "16d22969bf6f3ce07df6cded8601507bfcbdfa8cfa0e653e73ddbb66fdb06e26"), looks := false }, kinds := [], alts := [], laidByText := true, laidKinds := [.data, .pinned], laidTests := true, laidLooks := .later }
def FnCenterCardSaid : Prop := Claim7.holds Tryd.pinned (.plain (OpenSpec.ofChange fnCenterSpec)) fnCenterCard

/-- THE TIED CARD OF 'laws.FnWordSplit'. -/
def fnWordSplitCard : Claim7 := { stood := { row := fnWordSplitRow, standIns := [], harness := (true, "16d22969bf6f3ce07df6cded8601507bfcbdfa8cfa0e653e73ddbb66fdb06e26"), looks := false }, kinds := [], alts := [], laidByText := true, laidKinds := [.data, .data, .pinned, .pinned], laidTests := true, laidLooks := .later }
def FnWordSplitCardSaid : Prop := Claim7.holds Tryd.pinned (.plain (OpenSpec.ofChange fnWordSplitSpec)) fnWordSplitCard

/-- THE TIED CARD OF 'laws.FnFirst'. -/
def fnFirstCard : Claim7 := { stood := { row := fnFirstRow, standIns := [], harness := (true, "16d22969bf6f3ce07df6cded8601507bfcbdfa8cfa0e653e73ddbb66fdb06e26"), looks := false }, kinds := [], alts := [], laidByText := true, laidKinds := [.data, .pinned, .pinned], laidTests := true, laidLooks := .later }
def FnFirstCardSaid : Prop := Claim7.holds Tryd.pinned (.plain (OpenSpec.ofChange fnFirstSpec)) fnFirstCard

/-- THE TIED CARD OF 'laws.FnJustifyLen'. -/
def fnJustifyLenCard : Claim7 := { stood := { row := fnJustifyLenRow, standIns := [], harness := (true, "16d22969bf6f3ce07df6cded8601507bfcbdfa8cfa0e653e73ddbb66fdb06e26"), looks := false }, kinds := [], alts := [], laidByText := true, laidKinds := [.data, .pinned], laidTests := true, laidLooks := .later }
def FnJustifyLenCardSaid : Prop := Claim7.holds Tryd.pinned (.plain (OpenSpec.ofChange fnJustifyLenSpec)) fnJustifyLenCard

/-- THE TIED CARD OF 'laws.FnExpandTabs'. -/
def fnExpandTabsCard : Claim7 := { stood := { row := fnExpandTabsRow, standIns := [], harness := (true, "16d22969bf6f3ce07df6cded8601507bfcbdfa8cfa0e653e73ddbb66fdb06e26"), looks := false }, kinds := [], alts := [], laidByText := true, laidKinds := [.data, .pinned], laidTests := true, laidLooks := .later }
def FnExpandTabsCardSaid : Prop := Claim7.holds Tryd.pinned (.plain (OpenSpec.ofChange fnExpandTabsSpec)) fnExpandTabsCard

/-- THE TIED CARD OF 'laws.FnSwapCase'. -/
def fnSwapCaseCard : Claim7 := { stood := { row := fnSwapCaseRow, standIns := [], harness := (true, "16d22969bf6f3ce07df6cded8601507bfcbdfa8cfa0e653e73ddbb66fdb06e26"), looks := false }, kinds := [], alts := [], laidByText := true, laidKinds := [.data, .data, .pinned, .pinned, .pinned, .pinned], laidTests := true, laidLooks := .later }
def FnSwapCaseCardSaid : Prop := Claim7.holds Tryd.pinned (.plain (OpenSpec.ofChange fnSwapCaseSpec)) fnSwapCaseCard

/-- THE TIED CARD OF 'laws.FnMeasureSays'. -/
def fnMeasureSaysCard : Claim7 := { stood := { row := fnMeasureSaysRow, standIns := [], harness := (true, "16d22969bf6f3ce07df6cded8601507bfcbdfa8cfa0e653e73ddbb66fdb06e26"), looks := false }, kinds := [], alts := [], laidByText := true, laidKinds := [.data, .pinned], laidTests := true, laidLooks := .later }
def FnMeasureSaysCardSaid : Prop := Claim7.holds Tryd.pinned (.plain (OpenSpec.ofChange fnMeasureSaysSpec)) fnMeasureSaysCard

/-- THE SECOND FORM's CARD OF 'laws.FnReverse'. -/
def fnReverseUptoCard : Claim7 := { stood := { row := fnReverseUptoRow, standIns := [], harness := (true, "16d22969bf6f3ce07df6cded8601507bfcbdfa8cfa0e653e73ddbb66fdb06e26"), looks := false }, kinds := [], alts := [], laidByText := true, laidKinds := [.data, .pinned], laidTests := true, laidLooks := .later }
def FnReverseUptoCardSaid : Prop := Claim7.holds Tryd.pinned (.plain (OpenSpec.upto fnReverseSpec)) fnReverseUptoCard

/-- THE SECOND FORM's CARD OF 'laws.FnReverseJoined'. -/
def fnReverseJoinedUptoCard : Claim7 := { stood := { row := fnReverseJoinedUptoRow, standIns := [], harness := (true, "16d22969bf6f3ce07df6cded8601507bfcbdfa8cfa0e653e73ddbb66fdb06e26"), looks := false }, kinds := [], alts := [], laidByText := true, laidKinds := [.data, .pinned], laidTests := true, laidLooks := .later }
def FnReverseJoinedUptoCardSaid : Prop := Claim7.holds Tryd.pinned (.plain (OpenSpec.upto fnReverseJoinedSpec)) fnReverseJoinedUptoCard

/-- THE SECOND FORM's CARD OF 'laws.FnScrub'. -/
def fnScrubUptoCard : Claim7 := { stood := { row := fnScrubUptoRow, standIns := [], harness := (true, "16d22969bf6f3ce07df6cded8601507bfcbdfa8cfa0e653e73ddbb66fdb06e26"), looks := false }, kinds := [], alts := [], laidByText := true, laidKinds := [.data, .pinned], laidTests := true, laidLooks := .later }
def FnScrubUptoCardSaid : Prop := Claim7.holds Tryd.pinned (.plain (OpenSpec.upto fnScrubSpec)) fnScrubUptoCard

/-- THE SECOND FORM's CARD OF 'laws.FnWidth'. -/
def fnWidthUptoCard : Claim7 := { stood := { row := fnWidthUptoRow, standIns := [], harness := (true, "16d22969bf6f3ce07df6cded8601507bfcbdfa8cfa0e653e73ddbb66fdb06e26"), looks := false }, kinds := [], alts := [], laidByText := true, laidKinds := [.data, .pinned], laidTests := true, laidLooks := .later }
def FnWidthUptoCardSaid : Prop := Claim7.holds Tryd.pinned (.plain (OpenSpec.upto fnWidthSpec)) fnWidthUptoCard

/-- THE SECOND FORM's CARD OF 'laws.FnSliceParts'. -/
def fnSlicePartsUptoCard : Claim7 := { stood := { row := fnSlicePartsUptoRow, standIns := [], harness := (true, "16d22969bf6f3ce07df6cded8601507bfcbdfa8cfa0e653e73ddbb66fdb06e26"), looks := false }, kinds := [], alts := [], laidByText := true, laidKinds := [.data, .pinned], laidTests := true, laidLooks := .later }
def FnSlicePartsUptoCardSaid : Prop := Claim7.holds Tryd.pinned (.plain (OpenSpec.upto fnSlicePartsSpec)) fnSlicePartsUptoCard

/-- THE SECOND FORM's CARD OF 'laws.FnInsertBack'. -/
def fnInsertBackUptoCard : Claim7 := { stood := { row := fnInsertBackUptoRow, standIns := [], harness := (true, "16d22969bf6f3ce07df6cded8601507bfcbdfa8cfa0e653e73ddbb66fdb06e26"), looks := false }, kinds := [], alts := [], laidByText := true, laidKinds := [.data, .pinned], laidTests := true, laidLooks := .later }
def FnInsertBackUptoCardSaid : Prop := Claim7.holds Tryd.pinned (.plain (OpenSpec.upto fnInsertBackSpec)) fnInsertBackUptoCard

/-- THE SECOND FORM's CARD OF 'laws.FnLeftJustify'. -/
def fnLeftJustifyUptoCard : Claim7 := { stood := { row := fnLeftJustifyUptoRow, standIns := [], harness := (true, "16d22969bf6f3ce07df6cded8601507bfcbdfa8cfa0e653e73ddbb66fdb06e26"), looks := false }, kinds := [], alts := [], laidByText := true, laidKinds := [.data, .pinned], laidTests := true, laidLooks := .later }
def FnLeftJustifyUptoCardSaid : Prop := Claim7.holds Tryd.pinned (.plain (OpenSpec.upto fnLeftJustifySpec)) fnLeftJustifyUptoCard

/-- THE SECOND FORM's CARD OF 'laws.FnCenter'. -/
def fnCenterUptoCard : Claim7 := { stood := { row := fnCenterUptoRow, standIns := [], harness := (true, "16d22969bf6f3ce07df6cded8601507bfcbdfa8cfa0e653e73ddbb66fdb06e26"), looks := false }, kinds := [], alts := [], laidByText := true, laidKinds := [.data, .pinned], laidTests := true, laidLooks := .later }
def FnCenterUptoCardSaid : Prop := Claim7.holds Tryd.pinned (.plain (OpenSpec.upto fnCenterSpec)) fnCenterUptoCard

/-- THE SECOND FORM's CARD OF 'laws.FnWordSplit'. -/
def fnWordSplitUptoCard : Claim7 := { stood := { row := fnWordSplitUptoRow, standIns := [], harness := (true, "16d22969bf6f3ce07df6cded8601507bfcbdfa8cfa0e653e73ddbb66fdb06e26"), looks := false }, kinds := [], alts := [], laidByText := true, laidKinds := [.data, .data, .pinned, .pinned], laidTests := true, laidLooks := .later }
def FnWordSplitUptoCardSaid : Prop := Claim7.holds Tryd.pinned (.plain (OpenSpec.upto fnWordSplitSpec)) fnWordSplitUptoCard

/-- THE SECOND FORM's CARD OF 'laws.FnFirst'. -/
def fnFirstUptoCard : Claim7 := { stood := { row := fnFirstUptoRow, standIns := [], harness := (true, "16d22969bf6f3ce07df6cded8601507bfcbdfa8cfa0e653e73ddbb66fdb06e26"), looks := false }, kinds := [], alts := [], laidByText := true, laidKinds := [.data, .pinned, .pinned], laidTests := true, laidLooks := .later }
def FnFirstUptoCardSaid : Prop := Claim7.holds Tryd.pinned (.plain (OpenSpec.upto fnFirstSpec)) fnFirstUptoCard

/-- THE SECOND FORM's CARD OF 'laws.FnJustifyLen'. -/
def fnJustifyLenUptoCard : Claim7 := { stood := { row := fnJustifyLenUptoRow, standIns := [], harness := (true, "16d22969bf6f3ce07df6cded8601507bfcbdfa8cfa0e653e73ddbb66fdb06e26"), looks := false }, kinds := [], alts := [], laidByText := true, laidKinds := [.data, .pinned], laidTests := true, laidLooks := .later }
def FnJustifyLenUptoCardSaid : Prop := Claim7.holds Tryd.pinned (.plain (OpenSpec.upto fnJustifyLenSpec)) fnJustifyLenUptoCard

/-- THE SECOND FORM's CARD OF 'laws.FnExpandTabs'. -/
def fnExpandTabsUptoCard : Claim7 := { stood := { row := fnExpandTabsUptoRow, standIns := [], harness := (true, "16d22969bf6f3ce07df6cded8601507bfcbdfa8cfa0e653e73ddbb66fdb06e26"), looks := false }, kinds := [], alts := [], laidByText := true, laidKinds := [.data, .pinned], laidTests := true, laidLooks := .later }
def FnExpandTabsUptoCardSaid : Prop := Claim7.holds Tryd.pinned (.plain (OpenSpec.upto fnExpandTabsSpec)) fnExpandTabsUptoCard

/-- THE SECOND FORM's CARD OF 'laws.FnSwapCase'. -/
def fnSwapCaseUptoCard : Claim7 := { stood := { row := fnSwapCaseUptoRow, standIns := [], harness := (true, "16d22969bf6f3ce07df6cded8601507bfcbdfa8cfa0e653e73ddbb66fdb06e26"), looks := false }, kinds := [], alts := [], laidByText := true, laidKinds := [.data, .data, .pinned, .pinned, .pinned, .pinned], laidTests := true, laidLooks := .later }
def FnSwapCaseUptoCardSaid : Prop := Claim7.holds Tryd.pinned (.plain (OpenSpec.upto fnSwapCaseSpec)) fnSwapCaseUptoCard

/-- THE SECOND FORM's CARD OF 'laws.FnMeasureSays'. -/
def fnMeasureSaysUptoCard : Claim7 := { stood := { row := fnMeasureSaysUptoRow, standIns := [], harness := (true, "16d22969bf6f3ce07df6cded8601507bfcbdfa8cfa0e653e73ddbb66fdb06e26"), looks := false }, kinds := [], alts := [], laidByText := true, laidKinds := [.data, .pinned], laidTests := true, laidLooks := .later }
def FnMeasureSaysUptoCardSaid : Prop := Claim7.holds Tryd.pinned (.plain (OpenSpec.upto fnMeasureSaysSpec)) fnMeasureSaysUptoCard
end Rows
end Go.Proofs.YtodablchamiaeaaDoor
