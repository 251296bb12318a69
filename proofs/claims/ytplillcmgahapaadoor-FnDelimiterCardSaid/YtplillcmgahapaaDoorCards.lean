/-
  DERIVED. GIVEN WITH THE SEED: THE CARDS: each row of YtplillcmgahapaaDoorRows.lean that lists a variable, with what it lists TIED to the program's text (the seventh form; the later family's looks); each row that meets fmt, with fmt's text TOLD by the authors' own Lean function (tested against real Go, not proved from fmt's source: count such statements apart). THE CARD IS WHAT COUNTS. Prove the row's statement (the work); the ties are given (YtplillcmgahapaaDoorTie.lean); close each card by the builder's one call (the guide's Derived/Test/ToyasCard.lean, 'card_holds'). Laid BY PROGRAM, IN A SANDBOX (cutbox-door.mjs). By AI agents, Wed Nov 11 2026. No macro, syntax, notation, axiom, sorry.
-/
import Derived.Test.YtplillcmgahapaaDoorRows
import GoSem.ClaimSeven
namespace Go.Proofs.YtplillcmgahapaaDoor
namespace Rows

/-- THE TIED CARD OF 'laws.FnCamelRoads'. -/
def fnCamelRoadsCard : Claim7 := { stood := { row := fnCamelRoadsRow, standIns := [], harness := (true, "ec5b6e8158714734728880ad3d473f347c5f0a152612be6c42224438dd21efc2"), looks := false }, kinds := [], alts := [], laidByText := true, laidKinds := [.data, .listed, .data, .pinned], laidTests := true, laidLooks := .later }
def FnCamelRoadsCardSaid : Prop := Claim7.holds Tryd.pinned (.plain (OpenSpec.ofChange fnCamelRoadsSpec)) fnCamelRoadsCard

/-- THE TIED CARD OF 'laws.FnCamelSays'. -/
def fnCamelSaysCard : Claim7 := { stood := { row := fnCamelSaysRow, standIns := [], harness := (true, "ec5b6e8158714734728880ad3d473f347c5f0a152612be6c42224438dd21efc2"), looks := false }, kinds := [], alts := [], laidByText := true, laidKinds := [.data, .listed, .data, .pinned], laidTests := true, laidLooks := .later }
def FnCamelSaysCardSaid : Prop := Claim7.holds Tryd.pinned (.plain (OpenSpec.ofChange fnCamelSaysSpec)) fnCamelSaysCard

/-- THE TIED CARD OF 'laws.FnXCamelSays'. -/
def fnXCamelSaysCard : Claim7 := { stood := { row := fnXCamelSaysRow, standIns := [], harness := (true, "ec5b6e8158714734728880ad3d473f347c5f0a152612be6c42224438dd21efc2"), looks := false }, kinds := [], alts := [], laidByText := true, laidKinds := [.data, .listed, .data, .pinned, .pinned, .pinned], laidTests := true, laidLooks := .later }
def FnXCamelSaysCardSaid : Prop := Claim7.holds Tryd.pinned (.plain (OpenSpec.ofChange fnXCamelSaysSpec)) fnXCamelSaysCard

/-- THE TIED CARD OF 'laws.FnIgnoreRoads'. -/
def fnIgnoreRoadsCard : Claim7 := { stood := { row := fnIgnoreRoadsRow, standIns := [], harness := (true, "ec5b6e8158714734728880ad3d473f347c5f0a152612be6c42224438dd21efc2"), looks := false }, kinds := [], alts := [], laidByText := true, laidKinds := [.data, .listed, .data, .pinned], laidTests := true, laidLooks := .later }
def FnIgnoreRoadsCardSaid : Prop := Claim7.holds Tryd.pinned (.plain (OpenSpec.ofChange fnIgnoreRoadsSpec)) fnIgnoreRoadsCard

/-- THE TIED CARD OF 'laws.FnDelimiter'. -/
def fnDelimiterCard : Claim7 := { stood := { row := fnDelimiterRow, standIns := [], harness := (true, "ec5b6e8158714734728880ad3d473f347c5f0a152612be6c42224438dd21efc2"), looks := false }, kinds := [], alts := [], laidByText := true, laidKinds := [.data, .listed, .data, .pinned], laidTests := true, laidLooks := .later }
def FnDelimiterCardSaid : Prop := Claim7.holds Tryd.pinned (.plain (OpenSpec.ofChange fnDelimiterSpec)) fnDelimiterCard

/-- THE TIED CARD OF 'laws.FnAnyKind'. -/
def fnAnyKindCard : Claim7 := { stood := { row := fnAnyKindRow, standIns := [], harness := (true, "ec5b6e8158714734728880ad3d473f347c5f0a152612be6c42224438dd21efc2"), looks := false }, kinds := [], alts := [], laidByText := true, laidKinds := [.data, .listed, .data, .pinned], laidTests := true, laidLooks := .later }
def FnAnyKindCardSaid : Prop := Claim7.holds Tryd.pinned (.plain (OpenSpec.ofChange fnAnyKindSpec)) fnAnyKindCard

/-- THE SECOND FORM's CARD OF 'laws.FnCamelRoads'. -/
def fnCamelRoadsUptoCard : Claim7 := { stood := { row := fnCamelRoadsUptoRow, standIns := [], harness := (true, "ec5b6e8158714734728880ad3d473f347c5f0a152612be6c42224438dd21efc2"), looks := false }, kinds := [], alts := [], laidByText := true, laidKinds := [.data, .listed, .data, .pinned], laidTests := true, laidLooks := .later }
def FnCamelRoadsUptoCardSaid : Prop := Claim7.holds Tryd.pinned (.plain (OpenSpec.upto fnCamelRoadsSpec)) fnCamelRoadsUptoCard

/-- THE SECOND FORM's CARD OF 'laws.FnCamelSays'. -/
def fnCamelSaysUptoCard : Claim7 := { stood := { row := fnCamelSaysUptoRow, standIns := [], harness := (true, "ec5b6e8158714734728880ad3d473f347c5f0a152612be6c42224438dd21efc2"), looks := false }, kinds := [], alts := [], laidByText := true, laidKinds := [.data, .listed, .data, .pinned], laidTests := true, laidLooks := .later }
def FnCamelSaysUptoCardSaid : Prop := Claim7.holds Tryd.pinned (.plain (OpenSpec.upto fnCamelSaysSpec)) fnCamelSaysUptoCard

/-- THE SECOND FORM's CARD OF 'laws.FnXCamelSays'. -/
def fnXCamelSaysUptoCard : Claim7 := { stood := { row := fnXCamelSaysUptoRow, standIns := [], harness := (true, "ec5b6e8158714734728880ad3d473f347c5f0a152612be6c42224438dd21efc2"), looks := false }, kinds := [], alts := [], laidByText := true, laidKinds := [.data, .listed, .data, .pinned, .pinned, .pinned], laidTests := true, laidLooks := .later }
def FnXCamelSaysUptoCardSaid : Prop := Claim7.holds Tryd.pinned (.plain (OpenSpec.upto fnXCamelSaysSpec)) fnXCamelSaysUptoCard

/-- THE SECOND FORM's CARD OF 'laws.FnIgnoreRoads'. -/
def fnIgnoreRoadsUptoCard : Claim7 := { stood := { row := fnIgnoreRoadsUptoRow, standIns := [], harness := (true, "ec5b6e8158714734728880ad3d473f347c5f0a152612be6c42224438dd21efc2"), looks := false }, kinds := [], alts := [], laidByText := true, laidKinds := [.data, .listed, .data, .pinned], laidTests := true, laidLooks := .later }
def FnIgnoreRoadsUptoCardSaid : Prop := Claim7.holds Tryd.pinned (.plain (OpenSpec.upto fnIgnoreRoadsSpec)) fnIgnoreRoadsUptoCard

/-- THE SECOND FORM's CARD OF 'laws.FnDelimiter'. -/
def fnDelimiterUptoCard : Claim7 := { stood := { row := fnDelimiterUptoRow, standIns := [], harness := (true, "ec5b6e8158714734728880ad3d473f347c5f0a152612be6c42224438dd21efc2"), looks := false }, kinds := [], alts := [], laidByText := true, laidKinds := [.data, .listed, .data, .pinned], laidTests := true, laidLooks := .later }
def FnDelimiterUptoCardSaid : Prop := Claim7.holds Tryd.pinned (.plain (OpenSpec.upto fnDelimiterSpec)) fnDelimiterUptoCard

/-- THE SECOND FORM's CARD OF 'laws.FnAnyKind'. -/
def fnAnyKindUptoCard : Claim7 := { stood := { row := fnAnyKindUptoRow, standIns := [], harness := (true, "ec5b6e8158714734728880ad3d473f347c5f0a152612be6c42224438dd21efc2"), looks := false }, kinds := [], alts := [], laidByText := true, laidKinds := [.data, .listed, .data, .pinned], laidTests := true, laidLooks := .later }
def FnAnyKindUptoCardSaid : Prop := Claim7.holds Tryd.pinned (.plain (OpenSpec.upto fnAnyKindSpec)) fnAnyKindUptoCard
end Rows
end Go.Proofs.YtplillcmgahapaaDoor
