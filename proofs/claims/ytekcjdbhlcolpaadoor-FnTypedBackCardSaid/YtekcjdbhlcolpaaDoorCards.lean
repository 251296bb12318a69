/-
  DERIVED. GIVEN WITH THE SEED: THE CARDS: each row of YtekcjdbhlcolpaaDoorRows.lean that lists a variable, with what it lists TIED to the program's text (the seventh form; the later family's looks); each row that meets fmt, with fmt's text TOLD by the authors' own Lean function (tested against real Go, not proved from fmt's source: count such statements apart). THE CARD IS WHAT COUNTS. Prove the row's statement (the work); the ties are given (YtekcjdbhlcolpaaDoorTie.lean); close each card by the builder's one call (the guide's Derived/Test/ToyasCard.lean, 'card_holds'). Laid BY PROGRAM, IN A SANDBOX (cutbox-door.mjs). By AI agents, Wed Nov 11 2026. No macro, syntax, notation, axiom, sorry.
-/
import Derived.Test.YtekcjdbhlcolpaaDoorRows
import GoSem.ClaimSeven
namespace Go.Proofs.YtekcjdbhlcolpaaDoor
namespace Rows

/-- THE TIED CARD OF 'laws.FnPropsText'. -/
def fnPropsTextCard : Claim7 := { stood := { row := fnPropsTextRow, standIns := [], harness := (true, "ff23962e9e3ae86db4f475fa4f7fba4beca0b6823122c292aec688b0dde9b43e"), looks := true }, kinds := [], alts := [], laidByText := true, laidKinds := [.data, .pinned], laidTests := true, laidLooks := .later }
def FnPropsTextCardSaid : Prop := Claim7.holds Tryd.pinned (.plain (OpenSpec.ofChange fnPropsTextSpec)) fnPropsTextCard

/-- THE TIED CARD OF 'laws.FnPropsWithout'. -/
def fnPropsWithoutCard : Claim7 := { stood := { row := fnPropsWithoutRow, standIns := [], harness := (true, "ff23962e9e3ae86db4f475fa4f7fba4beca0b6823122c292aec688b0dde9b43e"), looks := true }, kinds := [], alts := [], laidByText := true, laidKinds := [.data, .listed, .pinned], laidTests := true, laidLooks := .later }
def FnPropsWithoutCardSaid : Prop := Claim7.holds Tryd.pinned (.plain (OpenSpec.ofChange fnPropsWithoutSpec)) fnPropsWithoutCard

/-- THE TIED CARD OF 'laws.FnTypedBack'. -/
def fnTypedBackCard : Claim7 := { stood := { row := fnTypedBackRow, standIns := [], harness := (true, "ff23962e9e3ae86db4f475fa4f7fba4beca0b6823122c292aec688b0dde9b43e"), looks := true }, kinds := [], alts := [], laidByText := true, laidKinds := [.data, .data, .data, .sentinel, .sentinel], laidTests := true, laidLooks := .later }
def FnTypedBackCardSaid : Prop := Claim7.holds Tryd.pinned (.plain (OpenSpec.ofChange fnTypedBackSpec)) fnTypedBackCard

/-- THE TIED CARD OF 'laws.FnLoadKeys'. -/
def fnLoadKeysCard : Claim7 := { stood := { row := fnLoadKeysRow, standIns := [], harness := (true, "ff23962e9e3ae86db4f475fa4f7fba4beca0b6823122c292aec688b0dde9b43e"), looks := true }, kinds := [], alts := [], laidByText := true, laidKinds := [.data, .data, .data, .data, .sentinel, .sentinel, .pinned], laidTests := true, laidLooks := .later }
def FnLoadKeysCardSaid : Prop := Claim7.holds Tryd.pinned (.plain (OpenSpec.ofChange fnLoadKeysSpec)) fnLoadKeysCard

/-- THE SECOND FORM's CARD OF 'laws.FnPropsText'. -/
def fnPropsTextUptoCard : Claim7 := { stood := { row := fnPropsTextUptoRow, standIns := [], harness := (true, "ff23962e9e3ae86db4f475fa4f7fba4beca0b6823122c292aec688b0dde9b43e"), looks := true }, kinds := [], alts := [], laidByText := true, laidKinds := [.data, .pinned], laidTests := true, laidLooks := .later }
def FnPropsTextUptoCardSaid : Prop := Claim7.holds Tryd.pinned (.plain (OpenSpec.upto fnPropsTextSpec)) fnPropsTextUptoCard

/-- THE SECOND FORM's CARD OF 'laws.FnPropsWithout'. -/
def fnPropsWithoutUptoCard : Claim7 := { stood := { row := fnPropsWithoutUptoRow, standIns := [], harness := (true, "ff23962e9e3ae86db4f475fa4f7fba4beca0b6823122c292aec688b0dde9b43e"), looks := true }, kinds := [], alts := [], laidByText := true, laidKinds := [.data, .listed, .pinned], laidTests := true, laidLooks := .later }
def FnPropsWithoutUptoCardSaid : Prop := Claim7.holds Tryd.pinned (.plain (OpenSpec.upto fnPropsWithoutSpec)) fnPropsWithoutUptoCard

/-- THE SECOND FORM's CARD OF 'laws.FnTypedBack'. -/
def fnTypedBackUptoCard : Claim7 := { stood := { row := fnTypedBackUptoRow, standIns := [], harness := (true, "ff23962e9e3ae86db4f475fa4f7fba4beca0b6823122c292aec688b0dde9b43e"), looks := true }, kinds := [], alts := [], laidByText := true, laidKinds := [.data, .data, .data, .sentinel, .sentinel], laidTests := true, laidLooks := .later }
def FnTypedBackUptoCardSaid : Prop := Claim7.holds Tryd.pinned (.plain (OpenSpec.upto fnTypedBackSpec)) fnTypedBackUptoCard

/-- THE SECOND FORM's CARD OF 'laws.FnLoadKeys'. -/
def fnLoadKeysUptoCard : Claim7 := { stood := { row := fnLoadKeysUptoRow, standIns := [], harness := (true, "ff23962e9e3ae86db4f475fa4f7fba4beca0b6823122c292aec688b0dde9b43e"), looks := true }, kinds := [], alts := [], laidByText := true, laidKinds := [.data, .data, .data, .data, .sentinel, .sentinel, .pinned], laidTests := true, laidLooks := .later }
def FnLoadKeysUptoCardSaid : Prop := Claim7.holds Tryd.pinned (.plain (OpenSpec.upto fnLoadKeysSpec)) fnLoadKeysUptoCard
end Rows
end Go.Proofs.YtekcjdbhlcolpaaDoor
