/- From what a row lists of the tables to what the walks ask of a world. -/
import Derived.Test.YtmmnljepbnifnaaDoorGEnc
import Derived.Lib.LaidU8
namespace Go.Proofs.YtmmnljepbnifnaaDoor
open Go.RowKit U8 Go.Shelf
open Go.Lib hiding intOf

theorem wt_of {W : World} (h2 : VarReads Tryd.prog W "unicode/utf8.first" firstData) (h3 : VarReads Tryd.prog W "unicode/utf8.acceptRanges" acceptData) (h4 : VarReads Tryd.prog W "unicode.White_Space" whiteData) : Wt W :=
  ⟨utf8Tabs_of_reads { Tryd.lays260 with } ⟨by kernel_rfl, by kernel_rfl, by kernel_rfl, by kernel_rfl, by kernel_rfl, by kernel_rfl, by kernel_rfl⟩ h2 h3,
   whiteTab_of_reads { Tryd.lays199 with } ⟨by kernel_rfl, by kernel_rfl, by kernel_rfl, by kernel_rfl, by kernel_rfl, by kernel_rfl, by kernel_rfl, by kernel_rfl⟩ h4⟩
end Go.Proofs.YtmmnljepbnifnaaDoor
