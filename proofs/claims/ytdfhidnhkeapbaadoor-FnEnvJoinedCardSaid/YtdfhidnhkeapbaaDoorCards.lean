/-
  DERIVED. GIVEN WITH THE SEED: THE CARDS: each row of YtdfhidnhkeapbaaDoorRows.lean that lists a variable, with what it lists TIED to the program's text (the seventh form; the later family's looks); each row that meets fmt, with fmt's text TOLD by the authors' own Lean function (tested against real Go, not proved from fmt's source: count such statements apart). THE CARD IS WHAT COUNTS. Prove the row's statement (the work); the ties are given (YtdfhidnhkeapbaaDoorTie.lean); close each card by the builder's one call (the guide's Derived/Test/ToyasCard.lean, 'card_holds'). Laid BY PROGRAM, IN A SANDBOX (cutbox-door.mjs). By AI agents, Wed Nov 11 2026. No macro, syntax, notation, axiom, sorry.
-/
import Derived.Test.YtdfhidnhkeapbaaDoorRows
import GoSem.ClaimSeven
namespace Go.Proofs.YtdfhidnhkeapbaaDoor
namespace Rows

/-- THE TIED CARD OF 'laws.FnEnvJoined'. -/
def fnEnvJoinedCard : Claim7 := { stood := { row := fnEnvJoinedRow, standIns := [], harness := (true, "a5023794530f1a70d3f8ad0bad7c7882ac95aefd50e6d742cd0318b8f3814f56"), looks := false }, kinds := [], alts := [], laidByText := true, laidKinds := [.data, .listed, .data, .pinned, .pinned, .pinned], laidTests := true, laidLooks := .later }
def FnEnvJoinedCardSaid : Prop := Claim7.holds Tryd.pinned (.plain (OpenSpec.ofChange fnEnvJoinedSpec)) fnEnvJoinedCard

/-- THE TIED CARD OF 'laws.FnEnvSays'. -/
def fnEnvSaysCard : Claim7 := { stood := { row := fnEnvSaysRow, standIns := [], harness := (true, "a5023794530f1a70d3f8ad0bad7c7882ac95aefd50e6d742cd0318b8f3814f56"), looks := false }, kinds := [], alts := [], laidByText := true, laidKinds := [.data, .listed, .data, .pinned, .pinned, .pinned], laidTests := true, laidLooks := .later }
def FnEnvSaysCardSaid : Prop := Claim7.holds Tryd.pinned (.plain (OpenSpec.ofChange fnEnvSaysSpec)) fnEnvSaysCard

/-- THE SECOND FORM's CARD OF 'laws.FnEnvJoined'. -/
def fnEnvJoinedUptoCard : Claim7 := { stood := { row := fnEnvJoinedUptoRow, standIns := [], harness := (true, "a5023794530f1a70d3f8ad0bad7c7882ac95aefd50e6d742cd0318b8f3814f56"), looks := false }, kinds := [], alts := [], laidByText := true, laidKinds := [.data, .listed, .data, .pinned, .pinned, .pinned], laidTests := true, laidLooks := .later }
def FnEnvJoinedUptoCardSaid : Prop := Claim7.holds Tryd.pinned (.plain (OpenSpec.upto fnEnvJoinedSpec)) fnEnvJoinedUptoCard

/-- THE SECOND FORM's CARD OF 'laws.FnEnvSays'. -/
def fnEnvSaysUptoCard : Claim7 := { stood := { row := fnEnvSaysUptoRow, standIns := [], harness := (true, "a5023794530f1a70d3f8ad0bad7c7882ac95aefd50e6d742cd0318b8f3814f56"), looks := false }, kinds := [], alts := [], laidByText := true, laidKinds := [.data, .listed, .data, .pinned, .pinned, .pinned], laidTests := true, laidLooks := .later }
def FnEnvSaysUptoCardSaid : Prop := Claim7.holds Tryd.pinned (.plain (OpenSpec.upto fnEnvSaysSpec)) fnEnvSaysUptoCard
end Rows
end Go.Proofs.YtdfhidnhkeapbaaDoor
