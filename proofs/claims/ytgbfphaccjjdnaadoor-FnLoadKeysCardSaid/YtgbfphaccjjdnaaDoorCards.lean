/-
  DERIVED. GIVEN WITH THE SEED: THE CARDS: each row of YtgbfphaccjjdnaaDoorRows.lean that lists a variable, with what it lists TIED to the program's text (the seventh form; the later family's looks); each row that meets fmt, with fmt's text TOLD by the authors' own Lean function (tested against real Go, not proved from fmt's source: count such statements apart). THE CARD IS WHAT COUNTS. Prove the row's statement (the work); the ties are given (YtgbfphaccjjdnaaDoorTie.lean); close each card by the builder's one call (the guide's Derived/Test/ToyasCard.lean, 'card_holds'). Laid BY PROGRAM, IN A SANDBOX (cutbox-door.mjs). By AI agents, Wed Nov 11 2026. No macro, syntax, notation, axiom, sorry.
-/
import Derived.Test.YtgbfphaccjjdnaaDoorRows
import GoSem.ClaimSeven
namespace Go.Proofs.YtgbfphaccjjdnaaDoor
namespace Rows

/-- THE TIED CARD OF 'laws.FnLoadKeys'. -/
def fnLoadKeysCard : Claim7 := { stood := { row := fnLoadKeysRow, standIns := [], harness := (true, "76037e82e689c07f73a37bf9e1584daaf5b768b3f2d8cd950bca00f63c4a991a"), looks := true }, kinds := [], alts := [], laidByText := true, laidKinds := [.data, .data, .data, .data, .sentinel, .sentinel, .pinned], laidTests := true, laidLooks := .later }
def FnLoadKeysCardSaid : Prop := Claim7.holds Tryd.pinned (.plain (OpenSpec.ofChange fnLoadKeysSpec)) fnLoadKeysCard

/-- THE SECOND FORM's CARD OF 'laws.FnLoadKeys'. -/
def fnLoadKeysUptoCard : Claim7 := { stood := { row := fnLoadKeysUptoRow, standIns := [], harness := (true, "76037e82e689c07f73a37bf9e1584daaf5b768b3f2d8cd950bca00f63c4a991a"), looks := true }, kinds := [], alts := [], laidByText := true, laidKinds := [.data, .data, .data, .data, .sentinel, .sentinel, .pinned], laidTests := true, laidLooks := .later }
def FnLoadKeysUptoCardSaid : Prop := Claim7.holds Tryd.pinned (.plain (OpenSpec.upto fnLoadKeysSpec)) fnLoadKeysUptoCard
end Rows
end Go.Proofs.YtgbfphaccjjdnaaDoor
