/-
  DERIVED. GIVEN WITH THE SEED: THE CARDS: each row of YtdfhidnhkeapbaaGreatDoorRows.lean that lists a variable, with what it lists TIED to the program's text (the seventh form; the later family's looks); each row that meets fmt, with fmt's text TOLD by the authors' own Lean function (tested against real Go, not proved from fmt's source: count such statements apart). THE CARD IS WHAT COUNTS. Prove the row's statement (the work); the ties are given (YtdfhidnhkeapbaaGreatDoorTie.lean); close each card by the builder's one call (the guide's Derived/Test/ToyasCard.lean, 'card_holds'). Laid BY PROGRAM, IN A SANDBOX (cutbox-door.mjs). By AI agents, Wed Nov 11 2026. No macro, syntax, notation, axiom, sorry.
-/
import Derived.Test.YtdfhidnhkeapbaaGreatDoorRows
import GoSem.ClaimSeven
namespace Go.Proofs.YtdfhidnhkeapbaaGreatDoor
namespace Rows

/-- THE TIED CARD OF 'laws.FnScriptGet'. -/
def fnScriptGetCard : Claim7 := { stood := { row := fnScriptGetRow, standIns := [], harness := (true, "90c1b4442d302c0b92895bbc8458e36a349582e90b2c178b467d384cd3f887a0"), looks := true }, kinds := [], alts := [], laidByText := true, laidKinds := [.data, .data, .data, .data, .sentinel, .sentinel, .pinned], laidTests := true, laidLooks := .later }
def FnScriptGetCardSaid : Prop := Claim7.holds Tryz.pinned (.plain (OpenSpec.ofChange fnScriptGetSpec)) fnScriptGetCard

/-- THE TIED CARD OF 'laws.FnScriptSays'. -/
def fnScriptSaysCard : Claim7 := { stood := { row := fnScriptSaysRow, standIns := [], harness := (true, "90c1b4442d302c0b92895bbc8458e36a349582e90b2c178b467d384cd3f887a0"), looks := true }, kinds := [], alts := [], laidByText := true, laidKinds := [.data, .data, .data, .data, .sentinel, .sentinel, .pinned], laidTests := true, laidLooks := .later }
def FnScriptSaysCardSaid : Prop := Claim7.holds Tryz.pinned (.plain (OpenSpec.ofChange fnScriptSaysSpec)) fnScriptSaysCard

/-- THE TIED CARD OF 'laws.FnScriptSorted'. -/
def fnScriptSortedCard : Claim7 := { stood := { row := fnScriptSortedRow, standIns := [], harness := (true, "90c1b4442d302c0b92895bbc8458e36a349582e90b2c178b467d384cd3f887a0"), looks := true }, kinds := [], alts := [], laidByText := true, laidKinds := [.data, .data, .data, .data, .sentinel, .sentinel, .pinned], laidTests := true, laidLooks := .later }
def FnScriptSortedCardSaid : Prop := Claim7.holds Tryz.pinned (.plain (OpenSpec.ofChange fnScriptSortedSpec)) fnScriptSortedCard

/-- THE TIED CARD OF 'laws.FnScriptForm'. -/
def fnScriptFormCard : Claim7 := { stood := { row := fnScriptFormRow, standIns := [], harness := (true, "90c1b4442d302c0b92895bbc8458e36a349582e90b2c178b467d384cd3f887a0"), looks := true }, kinds := [], alts := [], laidByText := true, laidKinds := [.data, .data, .data, .data, .sentinel, .sentinel, .pinned], laidTests := true, laidLooks := .later }
def FnScriptFormCardSaid : Prop := Claim7.holds Tryz.pinned (.plain (OpenSpec.ofChange fnScriptFormSpec)) fnScriptFormCard

/-- THE SECOND FORM's CARD OF 'laws.FnScriptGet'. -/
def fnScriptGetUptoCard : Claim7 := { stood := { row := fnScriptGetUptoRow, standIns := [], harness := (true, "90c1b4442d302c0b92895bbc8458e36a349582e90b2c178b467d384cd3f887a0"), looks := true }, kinds := [], alts := [], laidByText := true, laidKinds := [.data, .data, .data, .data, .sentinel, .sentinel, .pinned], laidTests := true, laidLooks := .later }
def FnScriptGetUptoCardSaid : Prop := Claim7.holds Tryz.pinned (.plain (OpenSpec.upto fnScriptGetSpec)) fnScriptGetUptoCard

/-- THE SECOND FORM's CARD OF 'laws.FnScriptSays'. -/
def fnScriptSaysUptoCard : Claim7 := { stood := { row := fnScriptSaysUptoRow, standIns := [], harness := (true, "90c1b4442d302c0b92895bbc8458e36a349582e90b2c178b467d384cd3f887a0"), looks := true }, kinds := [], alts := [], laidByText := true, laidKinds := [.data, .data, .data, .data, .sentinel, .sentinel, .pinned], laidTests := true, laidLooks := .later }
def FnScriptSaysUptoCardSaid : Prop := Claim7.holds Tryz.pinned (.plain (OpenSpec.upto fnScriptSaysSpec)) fnScriptSaysUptoCard

/-- THE SECOND FORM's CARD OF 'laws.FnScriptSorted'. -/
def fnScriptSortedUptoCard : Claim7 := { stood := { row := fnScriptSortedUptoRow, standIns := [], harness := (true, "90c1b4442d302c0b92895bbc8458e36a349582e90b2c178b467d384cd3f887a0"), looks := true }, kinds := [], alts := [], laidByText := true, laidKinds := [.data, .data, .data, .data, .sentinel, .sentinel, .pinned], laidTests := true, laidLooks := .later }
def FnScriptSortedUptoCardSaid : Prop := Claim7.holds Tryz.pinned (.plain (OpenSpec.upto fnScriptSortedSpec)) fnScriptSortedUptoCard

/-- THE SECOND FORM's CARD OF 'laws.FnScriptForm'. -/
def fnScriptFormUptoCard : Claim7 := { stood := { row := fnScriptFormUptoRow, standIns := [], harness := (true, "90c1b4442d302c0b92895bbc8458e36a349582e90b2c178b467d384cd3f887a0"), looks := true }, kinds := [], alts := [], laidByText := true, laidKinds := [.data, .data, .data, .data, .sentinel, .sentinel, .pinned], laidTests := true, laidLooks := .later }
def FnScriptFormUptoCardSaid : Prop := Claim7.holds Tryz.pinned (.plain (OpenSpec.upto fnScriptFormSpec)) fnScriptFormUptoCard
end Rows
end Go.Proofs.YtdfhidnhkeapbaaGreatDoor
