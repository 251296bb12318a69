/- A slice of truths among the arguments. -/
import Derived.Test.YtgbfphaccjjdnaaGreatDoorGTx
import Derived.Deep.Grids
namespace Go.Proofs.YtgbfphaccjjdnaaGreatDoor
open Go.RowKit U8
open Go.Lib hiding intOf
open Go.ChangeShapes Go.WideShapes
open Go.Deep

def Bl (w : World) (v : Value) (l : List Bool) : Prop := ∃ ao cap, v = .slice ao l.length cap ∧ ∀ (j : Nat) (b : Bool), l[j]? = some b → ∃ g o, ao = some ⟨g, o, none⟩ ∧ w.cell? ⟨g, o + j, none⟩ = some (.bool b)
theorem Bl.below {w w' : World} {v : Value} {l : List Bool} (h : Bl w v l) (hb : Below w.heap.size w w') : Bl w' v l := by
  obtain ⟨ao, cap, e, hx⟩ := h
  refine ⟨ao, cap, e, fun j x hj => ?_⟩
  obtain ⟨g, o, e2, hc⟩ := hx j x hj
  exact ⟨g, o, e2, (hb.cell (World.block_lt_of_cell? w _ hc)).trans hc⟩
theorem cells_bool : Tryz.prog.cellsOf 4 = 1 := by kernel_rfl
theorem open_bls {H : Type} {enc : TypeId × Value → H} {W : World} {a0 : Option Addr} {len cap fuel : Nat} {x : DataW H × List MemPlace}
    (hf : DataW.trod enc Tryz.prog W 0 (fun _ => true) true fuel 30 [.slice a0 len cap] = some x) :
    ∃ l : List Bool, Bl W (.slice a0 len cap) l ∧ l.length ≤ 9223372036854775807 := by
  rcases open_bools Tryz.underlying30 Tryz.underlying4 cells_bool hf with ⟨hcs, hx⟩ | ⟨a, len', cap', B, hcs, _, hl, hm, hz, hcell⟩
  · simp at hcs
    obtain ⟨rfl, rfl, rfl⟩ := hcs
    exact ⟨[], ⟨none, 0, rfl, fun j y h => by simp at h⟩, by simp⟩
  · simp at hcs
    obtain ⟨rfl, rfl, rfl⟩ := hcs
    unfold maxLen at hm
    have hlen : ((List.range len).map B).length = len := by simp
    refine ⟨(List.range len).map B, ⟨some a, cap, by rw [hlen], fun j b hj => ?_⟩, by rw [hlen]; omega⟩
    have hjl : j < len := by
      have := (List.getElem?_eq_some_iff.1 hj).1
      omega
    obtain ⟨g, off, spot⟩ := a
    have hc := hcell j (by omega)
    have hspot : spot = none := by simpa [Addr.add] using World.cell?_spot (hcell 0 (by omega))
    subst hspot
    refine ⟨g, off, rfl, ?_⟩
    rw [List.getElem?_map, List.getElem?_range hjl] at hj
    have hb : B j = b := by simpa using hj
    have e1 : (⟨g, off, none⟩ : Addr).add j = ⟨g, off + j, none⟩ := by simp [Addr.add]
    rw [e1, hb] at hc
    exact hc
end Go.Proofs.YtgbfphaccjjdnaaGreatDoor
