/- What Pattern hands back. -/
import Derived.Test.YtbomlhhpokknaaaDoorTPat
namespace Go.Proofs.YtbomlhhpokknaaaDoor
open Go.RowKit U8
open Go.Lib hiding intOf

theorem pat_results {tmps : Array Value} {W : World} {r0 : Nat} {v nb : Value} {says : Int} (h4 : tmps[4]?.getD undef = .pointer (some ⟨r0, 0, none⟩)) (h5 : tmps[5]?.getD undef = .int .i64 says) (c0 : W.cell? ⟨r0, 0, none⟩ = some v) (c1 : W.cell? ⟨r0, 1, none⟩ = some nb) :
    (results Tryd.f29 tmps).run Tryd.prog W = .ok (.tuple #[.agg #[v, nb], .int .i64 says]) W := by
  simp [results, Tryd.results29, h4, h5, c0, c1, go_sem]

end Go.Proofs.YtbomlhhpokknaaaDoor
