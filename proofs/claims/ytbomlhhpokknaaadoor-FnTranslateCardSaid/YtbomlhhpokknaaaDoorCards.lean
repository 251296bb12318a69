/-
  DERIVED. GIVEN WITH THE SEED: THE CARDS: each row of YtbomlhhpokknaaaDoorRows.lean that lists a variable, with what it lists TIED to the program's text (the seventh form; the later family's looks); each row that meets fmt, with fmt's text TOLD by the authors' own Lean function (tested against real Go, not proved from fmt's source: count such statements apart). THE CARD IS WHAT COUNTS. Prove the row's statement (the work); the ties are given (YtbomlhhpokknaaaDoorTie.lean); close each card by the builder's one call (the guide's Derived/Test/ToyasCard.lean, 'card_holds'). Laid BY PROGRAM, IN A SANDBOX (cutbox-door.mjs). By AI agents, Wed Nov 11 2026. No macro, syntax, notation, axiom, sorry.
-/
import Derived.Test.YtbomlhhpokknaaaDoorRows
import GoSem.ClaimSeven
namespace Go.Proofs.YtbomlhhpokknaaaDoor
namespace Rows

/-- THE TIED CARD OF 'laws.FnTranslateRune'. -/
def fnTranslateRuneCard : Claim7 := { stood := { row := fnTranslateRuneRow, standIns := [], harness := (true, "407d67b602b488cc79a3a1e1a4cc35a987619a9d55ac5586534af186d2734c19"), looks := false }, kinds := [], alts := [], laidByText := true, laidKinds := [.data, .pinned], laidTests := true, laidLooks := .later }
def FnTranslateRuneCardSaid : Prop := Claim7.holds Tryd.pinned (.plain (OpenSpec.ofChange fnTranslateRuneSpec)) fnTranslateRuneCard

/-- THE TIED CARD OF 'laws.FnCount'. -/
def fnCountCard : Claim7 := { stood := { row := fnCountRow, standIns := [], harness := (true, "407d67b602b488cc79a3a1e1a4cc35a987619a9d55ac5586534af186d2734c19"), looks := false }, kinds := [], alts := [], laidByText := true, laidKinds := [.data, .pinned], laidTests := true, laidLooks := .later }
def FnCountCardSaid : Prop := Claim7.holds Tryd.pinned (.plain (OpenSpec.ofChange fnCountSpec)) fnCountCard

/-- THE TIED CARD OF 'laws.FnTranslate'. -/
def fnTranslateCard : Claim7 := { stood := { row := fnTranslateRow, standIns := [], harness := (true, "407d67b602b488cc79a3a1e1a4cc35a987619a9d55ac5586534af186d2734c19"), looks := false }, kinds := [], alts := [], laidByText := true, laidKinds := [.data, .pinned], laidTests := true, laidLooks := .later }
def FnTranslateCardSaid : Prop := Claim7.holds Tryd.pinned (.plain (OpenSpec.ofChange fnTranslateSpec)) fnTranslateCard

/-- THE TIED CARD OF 'laws.FnTranslateCases'. -/
def fnTranslateCasesCard : Claim7 := { stood := { row := fnTranslateCasesRow, standIns := [], harness := (true, "407d67b602b488cc79a3a1e1a4cc35a987619a9d55ac5586534af186d2734c19"), looks := false }, kinds := [], alts := [], laidByText := true, laidKinds := [.data, .pinned], laidTests := true, laidLooks := .later }
def FnTranslateCasesCardSaid : Prop := Claim7.holds Tryd.pinned (.plain (OpenSpec.ofChange fnTranslateCasesSpec)) fnTranslateCasesCard

/-- THE TIED CARD OF 'laws.FnTranslateEmpty'. -/
def fnTranslateEmptyCard : Claim7 := { stood := { row := fnTranslateEmptyRow, standIns := [], harness := (true, "407d67b602b488cc79a3a1e1a4cc35a987619a9d55ac5586534af186d2734c19"), looks := false }, kinds := [], alts := [], laidByText := true, laidKinds := [.data, .pinned], laidTests := true, laidLooks := .later }
def FnTranslateEmptyCardSaid : Prop := Claim7.holds Tryd.pinned (.plain (OpenSpec.ofChange fnTranslateEmptySpec)) fnTranslateEmptyCard

/-- THE TIED CARD OF 'laws.FnTranslateBack'. -/
def fnTranslateBackCard : Claim7 := { stood := { row := fnTranslateBackRow, standIns := [], harness := (true, "407d67b602b488cc79a3a1e1a4cc35a987619a9d55ac5586534af186d2734c19"), looks := false }, kinds := [], alts := [], laidByText := true, laidKinds := [.data, .pinned], laidTests := true, laidLooks := .later }
def FnTranslateBackCardSaid : Prop := Claim7.holds Tryd.pinned (.plain (OpenSpec.ofChange fnTranslateBackSpec)) fnTranslateBackCard

/-- THE TIED CARD OF 'laws.FnCountParts'. -/
def fnCountPartsCard : Claim7 := { stood := { row := fnCountPartsRow, standIns := [], harness := (true, "407d67b602b488cc79a3a1e1a4cc35a987619a9d55ac5586534af186d2734c19"), looks := false }, kinds := [], alts := [], laidByText := true, laidKinds := [.data, .pinned], laidTests := true, laidLooks := .later }
def FnCountPartsCardSaid : Prop := Claim7.holds Tryd.pinned (.plain (OpenSpec.ofChange fnCountPartsSpec)) fnCountPartsCard

/-- THE SECOND FORM's CARD OF 'laws.FnTranslateRune'. -/
def fnTranslateRuneUptoCard : Claim7 := { stood := { row := fnTranslateRuneUptoRow, standIns := [], harness := (true, "407d67b602b488cc79a3a1e1a4cc35a987619a9d55ac5586534af186d2734c19"), looks := false }, kinds := [], alts := [], laidByText := true, laidKinds := [.data, .pinned], laidTests := true, laidLooks := .later }
def FnTranslateRuneUptoCardSaid : Prop := Claim7.holds Tryd.pinned (.plain (OpenSpec.upto fnTranslateRuneSpec)) fnTranslateRuneUptoCard

/-- THE SECOND FORM's CARD OF 'laws.FnCount'. -/
def fnCountUptoCard : Claim7 := { stood := { row := fnCountUptoRow, standIns := [], harness := (true, "407d67b602b488cc79a3a1e1a4cc35a987619a9d55ac5586534af186d2734c19"), looks := false }, kinds := [], alts := [], laidByText := true, laidKinds := [.data, .pinned], laidTests := true, laidLooks := .later }
def FnCountUptoCardSaid : Prop := Claim7.holds Tryd.pinned (.plain (OpenSpec.upto fnCountSpec)) fnCountUptoCard

/-- THE SECOND FORM's CARD OF 'laws.FnTranslate'. -/
def fnTranslateUptoCard : Claim7 := { stood := { row := fnTranslateUptoRow, standIns := [], harness := (true, "407d67b602b488cc79a3a1e1a4cc35a987619a9d55ac5586534af186d2734c19"), looks := false }, kinds := [], alts := [], laidByText := true, laidKinds := [.data, .pinned], laidTests := true, laidLooks := .later }
def FnTranslateUptoCardSaid : Prop := Claim7.holds Tryd.pinned (.plain (OpenSpec.upto fnTranslateSpec)) fnTranslateUptoCard

/-- THE SECOND FORM's CARD OF 'laws.FnTranslateCases'. -/
def fnTranslateCasesUptoCard : Claim7 := { stood := { row := fnTranslateCasesUptoRow, standIns := [], harness := (true, "407d67b602b488cc79a3a1e1a4cc35a987619a9d55ac5586534af186d2734c19"), looks := false }, kinds := [], alts := [], laidByText := true, laidKinds := [.data, .pinned], laidTests := true, laidLooks := .later }
def FnTranslateCasesUptoCardSaid : Prop := Claim7.holds Tryd.pinned (.plain (OpenSpec.upto fnTranslateCasesSpec)) fnTranslateCasesUptoCard

/-- THE SECOND FORM's CARD OF 'laws.FnTranslateEmpty'. -/
def fnTranslateEmptyUptoCard : Claim7 := { stood := { row := fnTranslateEmptyUptoRow, standIns := [], harness := (true, "407d67b602b488cc79a3a1e1a4cc35a987619a9d55ac5586534af186d2734c19"), looks := false }, kinds := [], alts := [], laidByText := true, laidKinds := [.data, .pinned], laidTests := true, laidLooks := .later }
def FnTranslateEmptyUptoCardSaid : Prop := Claim7.holds Tryd.pinned (.plain (OpenSpec.upto fnTranslateEmptySpec)) fnTranslateEmptyUptoCard

/-- THE SECOND FORM's CARD OF 'laws.FnTranslateBack'. -/
def fnTranslateBackUptoCard : Claim7 := { stood := { row := fnTranslateBackUptoRow, standIns := [], harness := (true, "407d67b602b488cc79a3a1e1a4cc35a987619a9d55ac5586534af186d2734c19"), looks := false }, kinds := [], alts := [], laidByText := true, laidKinds := [.data, .pinned], laidTests := true, laidLooks := .later }
def FnTranslateBackUptoCardSaid : Prop := Claim7.holds Tryd.pinned (.plain (OpenSpec.upto fnTranslateBackSpec)) fnTranslateBackUptoCard

/-- THE SECOND FORM's CARD OF 'laws.FnCountParts'. -/
def fnCountPartsUptoCard : Claim7 := { stood := { row := fnCountPartsUptoRow, standIns := [], harness := (true, "407d67b602b488cc79a3a1e1a4cc35a987619a9d55ac5586534af186d2734c19"), looks := false }, kinds := [], alts := [], laidByText := true, laidKinds := [.data, .pinned], laidTests := true, laidLooks := .later }
def FnCountPartsUptoCardSaid : Prop := Claim7.holds Tryd.pinned (.plain (OpenSpec.upto fnCountPartsSpec)) fnCountPartsUptoCard
end Rows
end Go.Proofs.YtbomlhhpokknaaaDoor
