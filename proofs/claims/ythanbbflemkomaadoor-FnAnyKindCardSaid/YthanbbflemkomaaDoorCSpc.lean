/- From what a row lists of the tables to what TrimSpace's contract asks of a world. -/
import Derived.Test.YthanbbflemkomaaDoorCamel
import Derived.Lib.LaidU8
namespace Go.Proofs.YthanbbflemkomaaDoor
open Go.RowKit U8 Go.Shelf
open Go.Lib hiding intOf

theorem tabIs_of_reads {P : Program} {W : World} {name : String} {k : IntKind} {zs : List Int} {g : Nat} {t e : TypeId} {n : Nat}
    (hg : P.globalNamed name = some g) (hty : (P.globals[g]?).map (·.type) = some t) (ht : P.underlying t = some (.array n e)) (he : P.underlying e = some (.int k)) (hce : P.cellsOf e = 1) (hct : P.cellsOf t = n)
    (h : VarReads P W name (tabData k zs)) : TabIs P W name k zs := by
  obtain ⟨g', t', cs, fuel, p, hg', ht', hvar, hd⟩ := h
  obtain rfl := Option.some.inj (hg.symm.trans hg')
  obtain rfl := Option.some.inj (hty.symm.trans ht')
  unfold TabIs
  rw [hvar, ← cells_of_tab ht he hce hct hd]

theorem spc_of {W : World} (h1 : VarReads Tryd.prog W "strings.asciiSpace" (tabData .u8 asciiSpaceTab)) (h2 : VarReads Tryd.prog W "unicode/utf8.first" firstData) (h3 : VarReads Tryd.prog W "unicode/utf8.acceptRanges" acceptData) (h4 : VarReads Tryd.prog W "unicode.White_Space" whiteData) : Spc W :=
  ⟨tabIs_of_reads (g := 2) (t := 67) (e := 5) (by kernel_rfl) (by kernel_rfl) Tryd.underlying67 Tryd.underlying5 (by kernel_rfl) (by kernel_rfl) h1,
   utf8Tabs_of_reads { Tryd.lays260 with } ⟨by kernel_rfl, by kernel_rfl, by kernel_rfl, by kernel_rfl, by kernel_rfl, by kernel_rfl, by kernel_rfl⟩ h2 h3,
   whiteTab_of_reads { Tryd.lays199 with } ⟨by kernel_rfl, by kernel_rfl, by kernel_rfl, by kernel_rfl, by kernel_rfl, by kernel_rfl, by kernel_rfl, by kernel_rfl⟩ h4⟩

end Go.Proofs.YthanbbflemkomaaDoor
