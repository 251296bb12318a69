/-
  DERIVED. GIVEN WITH THE SEED: THE CARDS: each row of YtgbfphaccjjdnaaGreatDoorRows.lean that lists a variable, with what it lists TIED to the program's text (the seventh form; the later family's looks); each row that meets fmt, with fmt's text TOLD by the authors' own Lean function (tested against real Go, not proved from fmt's source: count such statements apart). THE CARD IS WHAT COUNTS. Prove the row's statement (the work); the ties are given (YtgbfphaccjjdnaaGreatDoorTie.lean); close each card by the builder's one call (the guide's Derived/Test/ToyasCard.lean, 'card_holds'). Laid BY PROGRAM, IN A SANDBOX (cutbox-door.mjs). By AI agents, Wed Nov 11 2026. No macro, syntax, notation, axiom, sorry.
-/
import Derived.Test.YtgbfphaccjjdnaaGreatDoorRows
import GoSem.ClaimSeven
namespace Go.Proofs.YtgbfphaccjjdnaaGreatDoor
namespace Rows

/-- THE TIED CARD OF 'laws.FnCircular'. -/
def fnCircularCard : Claim7 := { stood := { row := fnCircularRow, standIns := [], harness := (true, "e13dbc84f72c604b242c2dc9641266606382e2018730ae82158d1230c3d8b7ab"), looks := true }, kinds := [], alts := [], laidByText := true, laidKinds := [.data, .data, .data, .data, .sentinel, .sentinel, .pinned], laidTests := true, laidLooks := .later }
def FnCircularCardSaid : Prop := Claim7.holds Tryz.pinned (.plain (OpenSpec.ofChange fnCircularSpec)) fnCircularCard

/-- THE TIED CARD OF 'laws.FnLoadNotes'. -/
def fnLoadNotesCard : Claim7 := { stood := { row := fnLoadNotesRow, standIns := [], harness := (true, "e13dbc84f72c604b242c2dc9641266606382e2018730ae82158d1230c3d8b7ab"), looks := true }, kinds := [], alts := [], laidByText := true, laidKinds := [.data, .data, .data, .data, .sentinel, .sentinel, .pinned], laidTests := true, laidLooks := .later }
def FnLoadNotesCardSaid : Prop := Claim7.holds Tryz.pinned (.plain (OpenSpec.ofChange fnLoadNotesSpec)) fnLoadNotesCard

/-- THE TIED CARD OF 'laws.FnLoadLatin'. -/
def fnLoadLatinCard : Claim7 := { stood := { row := fnLoadLatinRow, standIns := [], harness := (true, "e13dbc84f72c604b242c2dc9641266606382e2018730ae82158d1230c3d8b7ab"), looks := true }, kinds := [], alts := [], laidByText := true, laidKinds := [.data, .data, .data, .data, .sentinel, .sentinel, .pinned], laidTests := true, laidLooks := .later }
def FnLoadLatinCardSaid : Prop := Claim7.holds Tryz.pinned (.plain (OpenSpec.ofChange fnLoadLatinSpec)) fnLoadLatinCard

/-- THE SECOND FORM's CARD OF 'laws.FnCircular'. -/
def fnCircularUptoCard : Claim7 := { stood := { row := fnCircularUptoRow, standIns := [], harness := (true, "e13dbc84f72c604b242c2dc9641266606382e2018730ae82158d1230c3d8b7ab"), looks := true }, kinds := [], alts := [], laidByText := true, laidKinds := [.data, .data, .data, .data, .sentinel, .sentinel, .pinned], laidTests := true, laidLooks := .later }
def FnCircularUptoCardSaid : Prop := Claim7.holds Tryz.pinned (.plain (OpenSpec.upto fnCircularSpec)) fnCircularUptoCard

/-- THE SECOND FORM's CARD OF 'laws.FnLoadNotes'. -/
def fnLoadNotesUptoCard : Claim7 := { stood := { row := fnLoadNotesUptoRow, standIns := [], harness := (true, "e13dbc84f72c604b242c2dc9641266606382e2018730ae82158d1230c3d8b7ab"), looks := true }, kinds := [], alts := [], laidByText := true, laidKinds := [.data, .data, .data, .data, .sentinel, .sentinel, .pinned], laidTests := true, laidLooks := .later }
def FnLoadNotesUptoCardSaid : Prop := Claim7.holds Tryz.pinned (.plain (OpenSpec.upto fnLoadNotesSpec)) fnLoadNotesUptoCard

/-- THE SECOND FORM's CARD OF 'laws.FnLoadLatin'. -/
def fnLoadLatinUptoCard : Claim7 := { stood := { row := fnLoadLatinUptoRow, standIns := [], harness := (true, "e13dbc84f72c604b242c2dc9641266606382e2018730ae82158d1230c3d8b7ab"), looks := true }, kinds := [], alts := [], laidByText := true, laidKinds := [.data, .data, .data, .data, .sentinel, .sentinel, .pinned], laidTests := true, laidLooks := .later }
def FnLoadLatinUptoCardSaid : Prop := Claim7.holds Tryz.pinned (.plain (OpenSpec.upto fnLoadLatinSpec)) fnLoadLatinUptoCard
end Rows
end Go.Proofs.YtgbfphaccjjdnaaGreatDoor
