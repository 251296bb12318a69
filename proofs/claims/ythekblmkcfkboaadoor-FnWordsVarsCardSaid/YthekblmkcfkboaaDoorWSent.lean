/- A sentinel of the program that is laid: what its variable holds. -/
import Derived.Test.YthekblmkcfkboaaDoorWImpl
import Derived.WideMake
import Derived.WalkKit
import Derived.Lib.LaidU8
import Derived.LaidLaws
namespace Go.Proofs.YthekblmkcfkboaaDoor
open Go.RowKit Go.Lib

/-- What a laid sentinel holds. -/
theorem sentinel_of {P : Program} {W : World} {n nm : String} {D : DataW Unit} (g : Nat) (t : TypeId) (ms : Array (String × TypeId)) (hg : P.globalNamed n = some g) (ht : (P.globals[g]?).map (·.type) = some t) (hi : P.underlying t = some (.interface ms))
    (h : VarReads P W n (.iface nm D)) : ∃ tp p, W.cell? ⟨g, 0, none⟩ = some (.iface tp p) := by
  obtain ⟨g1, t1, cs, fuel, q, h1, h2, h3, h4⟩ := h
  obtain rfl := Option.some.inj (hg.symm.trans h1)
  obtain rfl := Option.some.inj (ht.symm.trans h2)
  obtain ⟨f2, u, v, e, _, _⟩ := iface_of_trod hi h4
  refine ⟨u, v, ?_⟩
  rw [World.var?_cell hg h3 0]
  rw [← Array.getElem?_toList, e]
  rfl

end Go.Proofs.YthekblmkcfkboaaDoor
