/-
  DERIVED. GIVEN WITH THE SEED: THE CARDS: each row of YtmmnljepbnifnaaDoorRows.lean that lists a variable, with what it lists TIED to the program's text (the seventh form; the later family's looks); each row that meets fmt, with fmt's text TOLD by the authors' own Lean function (tested against real Go, not proved from fmt's source: count such statements apart). THE CARD IS WHAT COUNTS. Prove the row's statement (the work); the ties are given (YtmmnljepbnifnaaDoorTie.lean); close each card by the builder's one call (the guide's Derived/Test/ToyasCard.lean, 'card_holds'). Laid BY PROGRAM, IN A SANDBOX (cutbox-door.mjs). By AI agents, Wed Nov 11 2026. No macro, syntax, notation, axiom, sorry.
-/
import Derived.Test.YtmmnljepbnifnaaDoorRows
import GoSem.ClaimSeven
namespace Go.Proofs.YtmmnljepbnifnaaDoor
namespace Rows

/-- THE TIED CARD OF 'laws.FnPropsText'. -/
def fnPropsTextCard : Claim7 := { stood := { row := fnPropsTextRow, standIns := [], harness := (true, "4cdbc52c5d696f2b1aeec05f64fb5f6b32b25c27c0753ebb9657337380ba33ee"), looks := true }, kinds := [], alts := [], laidByText := true, laidKinds := [.data, .pinned], laidTests := true, laidLooks := .later }
def FnPropsTextCardSaid : Prop := Claim7.holds Tryd.pinned (.plain (OpenSpec.ofChange fnPropsTextSpec)) fnPropsTextCard

/-- THE TIED CARD OF 'laws.FnPropsWithout'. -/
def fnPropsWithoutCard : Claim7 := { stood := { row := fnPropsWithoutRow, standIns := [], harness := (true, "4cdbc52c5d696f2b1aeec05f64fb5f6b32b25c27c0753ebb9657337380ba33ee"), looks := true }, kinds := [], alts := [], laidByText := true, laidKinds := [.data, .listed, .pinned], laidTests := true, laidLooks := .later }
def FnPropsWithoutCardSaid : Prop := Claim7.holds Tryd.pinned (.plain (OpenSpec.ofChange fnPropsWithoutSpec)) fnPropsWithoutCard

/-- THE TIED CARD OF 'laws.FnEnvOrder'. -/
def fnEnvOrderCard : Claim7 := { stood := { row := fnEnvOrderRow, standIns := [], harness := (true, "4cdbc52c5d696f2b1aeec05f64fb5f6b32b25c27c0753ebb9657337380ba33ee"), looks := true }, kinds := [], alts := [], laidByText := true, laidKinds := [.data, .data, .data, .sentinel, .sentinel], laidTests := true, laidLooks := .later }
def FnEnvOrderCardSaid : Prop := Claim7.holds Tryd.pinned (.plain (OpenSpec.ofChange fnEnvOrderSpec)) fnEnvOrderCard

/-- THE SECOND FORM's CARD OF 'laws.FnPropsText'. -/
def fnPropsTextUptoCard : Claim7 := { stood := { row := fnPropsTextUptoRow, standIns := [], harness := (true, "4cdbc52c5d696f2b1aeec05f64fb5f6b32b25c27c0753ebb9657337380ba33ee"), looks := true }, kinds := [], alts := [], laidByText := true, laidKinds := [.data, .pinned], laidTests := true, laidLooks := .later }
def FnPropsTextUptoCardSaid : Prop := Claim7.holds Tryd.pinned (.plain (OpenSpec.upto fnPropsTextSpec)) fnPropsTextUptoCard

/-- THE SECOND FORM's CARD OF 'laws.FnPropsWithout'. -/
def fnPropsWithoutUptoCard : Claim7 := { stood := { row := fnPropsWithoutUptoRow, standIns := [], harness := (true, "4cdbc52c5d696f2b1aeec05f64fb5f6b32b25c27c0753ebb9657337380ba33ee"), looks := true }, kinds := [], alts := [], laidByText := true, laidKinds := [.data, .listed, .pinned], laidTests := true, laidLooks := .later }
def FnPropsWithoutUptoCardSaid : Prop := Claim7.holds Tryd.pinned (.plain (OpenSpec.upto fnPropsWithoutSpec)) fnPropsWithoutUptoCard

/-- THE SECOND FORM's CARD OF 'laws.FnEnvOrder'. -/
def fnEnvOrderUptoCard : Claim7 := { stood := { row := fnEnvOrderUptoRow, standIns := [], harness := (true, "4cdbc52c5d696f2b1aeec05f64fb5f6b32b25c27c0753ebb9657337380ba33ee"), looks := true }, kinds := [], alts := [], laidByText := true, laidKinds := [.data, .data, .data, .sentinel, .sentinel], laidTests := true, laidLooks := .later }
def FnEnvOrderUptoCardSaid : Prop := Claim7.holds Tryd.pinned (.plain (OpenSpec.upto fnEnvOrderSpec)) fnEnvOrderUptoCard
end Rows
end Go.Proofs.YtmmnljepbnifnaaDoor
