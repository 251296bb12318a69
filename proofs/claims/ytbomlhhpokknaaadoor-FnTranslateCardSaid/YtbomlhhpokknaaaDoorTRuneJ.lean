/- The law FnTranslateRune. -/
import Derived.Test.YtbomlhhpokknaaaDoorTPatJ
import Derived.Test.YtbomlhhpokknaaaDoorTRuneL
namespace Go.Proofs.YtbomlhhpokknaaaDoor
open Go.RowKit U8
open Go.Lib hiding intOf

theorem patS_of2 (tt : Bool) : PatOf2 tt (patS tt) := fun p hs => ⟨patS_len tt p hs, fun W hT => pat_txt tt p W hs hT⟩
theorem law_translateRune (s q : ByteArray) (u : Int) (w : World) (hsz : s.size ≤ 140737488351232) (hqz : q.size ≤ 140737488351232) (hu0 : -2147483648 ≤ u) (hu1 : u ≤ 2147483647) (hT : Tabs w) :
    Calls Tryd.prog 3 #[.string s, .string q, .int .i32 u] w fun e w' => e = .returned (.bool true) ∧ Below w.heap.size w w' :=
  rune_of (patS false) (patS true) (patS_of2 false) (patS_of2 true) (patS_rd false) (patS_rd true) s q u w hsz hqz hu0 hu1 hT

end Go.Proofs.YtbomlhhpokknaaaDoor
