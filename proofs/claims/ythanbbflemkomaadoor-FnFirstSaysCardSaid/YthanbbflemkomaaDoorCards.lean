/-
  DERIVED. GIVEN WITH THE SEED: THE CARDS: each row of YthanbbflemkomaaDoorRows.lean that lists a variable, with what it lists TIED to the program's text (the seventh form; the later family's looks); each row that meets fmt, with fmt's text TOLD by the authors' own Lean function (tested against real Go, not proved from fmt's source: count such statements apart). THE CARD IS WHAT COUNTS. Prove the row's statement (the work); the ties are given (YthanbbflemkomaaDoorTie.lean); close each card by the builder's one call (the guide's Derived/Test/ToyasCard.lean, 'card_holds'). Laid BY PROGRAM, IN A SANDBOX (cutbox-door.mjs). By AI agents, Wed Nov 11 2026. No macro, syntax, notation, axiom, sorry.
-/
import Derived.Test.YthanbbflemkomaaDoorRows
import GoSem.ClaimSeven
namespace Go.Proofs.YthanbbflemkomaaDoor
namespace Rows

/-- THE TIED CARD OF 'laws.FnAnyKind'. -/
def fnAnyKindCard : Claim7 := { stood := { row := fnAnyKindRow, standIns := [], harness := (true, "2d034a4888d6dd8c70452f338812fecee6f14188e6ae65ce2da00f4c9c5e7606"), looks := false }, kinds := [], alts := [], laidByText := true, laidKinds := [.data, .listed, .data, .pinned], laidTests := true, laidLooks := .later }
def FnAnyKindCardSaid : Prop := Claim7.holds Tryd.pinned (.plain (OpenSpec.ofChange fnAnyKindSpec)) fnAnyKindCard

/-- THE TIED CARD OF 'laws.FnXCamelSays'. -/
def fnXCamelSaysCard : Claim7 := { stood := { row := fnXCamelSaysRow, standIns := [], harness := (true, "2d034a4888d6dd8c70452f338812fecee6f14188e6ae65ce2da00f4c9c5e7606"), looks := false }, kinds := [], alts := [], laidByText := true, laidKinds := [.data, .listed, .data, .pinned, .pinned, .pinned], laidTests := true, laidLooks := .later }
def FnXCamelSaysCardSaid : Prop := Claim7.holds Tryd.pinned (.plain (OpenSpec.ofChange fnXCamelSaysSpec)) fnXCamelSaysCard

/-- THE TIED CARD OF 'laws.FnFirstSays'. -/
def fnFirstSaysCard : Claim7 := { stood := { row := fnFirstSaysRow, standIns := [], harness := (true, "2d034a4888d6dd8c70452f338812fecee6f14188e6ae65ce2da00f4c9c5e7606"), looks := false }, kinds := [], alts := [], laidByText := true, laidKinds := [.data, .listed, .data, .pinned, .pinned, .pinned, .pinned, .pinned], laidTests := true, laidLooks := .later }
def FnFirstSaysCardSaid : Prop := Claim7.holds Tryd.pinned (.plain (OpenSpec.ofChange fnFirstSaysSpec)) fnFirstSaysCard

/-- THE SECOND FORM's CARD OF 'laws.FnAnyKind'. -/
def fnAnyKindUptoCard : Claim7 := { stood := { row := fnAnyKindUptoRow, standIns := [], harness := (true, "2d034a4888d6dd8c70452f338812fecee6f14188e6ae65ce2da00f4c9c5e7606"), looks := false }, kinds := [], alts := [], laidByText := true, laidKinds := [.data, .listed, .data, .pinned], laidTests := true, laidLooks := .later }
def FnAnyKindUptoCardSaid : Prop := Claim7.holds Tryd.pinned (.plain (OpenSpec.upto fnAnyKindSpec)) fnAnyKindUptoCard

/-- THE SECOND FORM's CARD OF 'laws.FnXCamelSays'. -/
def fnXCamelSaysUptoCard : Claim7 := { stood := { row := fnXCamelSaysUptoRow, standIns := [], harness := (true, "2d034a4888d6dd8c70452f338812fecee6f14188e6ae65ce2da00f4c9c5e7606"), looks := false }, kinds := [], alts := [], laidByText := true, laidKinds := [.data, .listed, .data, .pinned, .pinned, .pinned], laidTests := true, laidLooks := .later }
def FnXCamelSaysUptoCardSaid : Prop := Claim7.holds Tryd.pinned (.plain (OpenSpec.upto fnXCamelSaysSpec)) fnXCamelSaysUptoCard

/-- THE SECOND FORM's CARD OF 'laws.FnFirstSays'. -/
def fnFirstSaysUptoCard : Claim7 := { stood := { row := fnFirstSaysUptoRow, standIns := [], harness := (true, "2d034a4888d6dd8c70452f338812fecee6f14188e6ae65ce2da00f4c9c5e7606"), looks := false }, kinds := [], alts := [], laidByText := true, laidKinds := [.data, .listed, .data, .pinned, .pinned, .pinned, .pinned, .pinned], laidTests := true, laidLooks := .later }
def FnFirstSaysUptoCardSaid : Prop := Claim7.holds Tryd.pinned (.plain (OpenSpec.upto fnFirstSaysSpec)) fnFirstSaysUptoCard
end Rows
end Go.Proofs.YthanbbflemkomaaDoor
