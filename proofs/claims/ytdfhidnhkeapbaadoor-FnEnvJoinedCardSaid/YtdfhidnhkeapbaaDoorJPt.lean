/- From what a row lists of the table unicode.properties to what the walk asks of a world. -/
import Derived.Test.YtdfhidnhkeapbaaDoorJPred
import Derived.Lib.LaidU8
namespace Go.Proofs.YtdfhidnhkeapbaaDoor
open Go.RowKit U8 Go.Shelf
open Go.Lib hiding intOf

theorem tabIs_of_reads2 {P : Program} {W : World} {name : String} {k : IntKind} {zs : List Int} {g : Nat} {t e : TypeId} {n : Nat}
    (hg : P.globalNamed name = some g) (hty : (P.globals[g]?).map (·.type) = some t) (ht : P.underlying t = some (.array n e)) (he : P.underlying e = some (.int k)) (hce : P.cellsOf e = 1) (hct : P.cellsOf t = n)
    (h : VarReads P W name (tabData k zs)) : TabIs P W name k zs := by
  obtain ⟨g', t', cs, fuel, p, hg', ht', hvar, hd⟩ := h
  obtain rfl := Option.some.inj (hg.symm.trans hg')
  obtain rfl := Option.some.inj (hty.symm.trans ht')
  unfold TabIs
  rw [hvar, ← cells_of_tab ht he hce hct hd]
theorem pt_of {W : World} (h5 : VarReads Tryd.prog W "unicode.properties" (tabData .u8 propertiesTab)) : Pt W :=
  tabIs_of_reads2 (g := 0) (t := 94) (e := 5) (by kernel_rfl) (by kernel_rfl) Tryd.underlying94 Tryd.underlying5 (by kernel_rfl) (by kernel_rfl) h5
end Go.Proofs.YtdfhidnhkeapbaaDoor
