/- A slice of texts among the arguments, opened as one list of texts. -/
import Derived.Test.YthekblmkcfkboaaDoorWBareC
import Derived.SliceStrings
import Derived.Carry
import Derived.WideShapes
namespace Go.Proofs.YthekblmkcfkboaaDoor
open Go.RowKit U8
open Go.ChangeShapes Go.WideShapes

theorem Tryd.laidOutW : laidOutB Tryd.prog = true := by kernel_rfl
theorem cells_str : Tryd.prog.cellsOf 9 = 1 := by kernel_rfl
theorem open_texts {H : Type} {enc : TypeId × Value → H} {W : World} {a0 : Option Addr} {len cap fuel : Nat} {x : DataW H × List MemPlace}
    (hf : DataW.trod enc Tryd.prog W 0 (fun _ => true) true fuel 22 [.slice a0 len cap] = some x) :
    ∃ l : List (List UInt8), Tx W (.slice a0 len cap) l ∧ l.length ≤ 9223372036854775807 ∧ ∀ y ∈ l, y.length ≤ 9223372036854775807 := by
  rcases open_strings Tryd.underlying22 Tryd.underlying9 cells_str hf with ⟨hcs, hx⟩ | ⟨a, len', cap', ss, hcs, _, hl, hm, hz, hx, hcell, hsz⟩
  · simp at hcs
    obtain ⟨rfl, rfl, rfl⟩ := hcs
    exact ⟨[], ⟨none, 0, rfl, fun j y h => by simp at h⟩, by simp, fun y h => by cases h⟩
  · simp at hcs
    obtain ⟨rfl, rfl, rfl⟩ := hcs
    simp only [if_true] at hz
    unfold maxLen at hm hsz
    have hlen : ((ss.take len).map fun s => s.data.toList).length = len := by simp; omega
    refine ⟨(ss.take len).map fun s => s.data.toList, ⟨some a, cap, by rw [hlen], fun j y hj => ?_⟩, by rw [hlen]; omega, fun y hy => ?_⟩
    · have hjl : j < len := by
        have := (List.getElem?_eq_some_iff.1 hj).1
        omega
      obtain ⟨b, off, spot⟩ := a
      have hc := hcell j (by omega)
      have hspot : spot = none := by simpa [Addr.add] using World.cell?_spot (hcell 0 (by omega))
      subst hspot
      refine ⟨b, off, rfl, ?_⟩
      have hss : j < ss.length := by omega
      rw [List.getElem?_map, List.getElem?_take_of_lt hjl, List.getElem?_eq_getElem hss] at hj
      have hy : ss[j].data.toList = y := by simpa using hj
      have hgd : ss.getD j ByteArray.empty = ss[j] := by simp [List.getD, List.getElem?_eq_getElem hss]
      rw [hgd] at hc
      have e1 : (⟨b, off, none⟩ : Addr).add j = ⟨b, off + j, none⟩ := by simp [Addr.add]
      rw [e1] at hc
      rw [hc, ← hy]
      rfl
    · obtain ⟨s, hs, rfl⟩ := List.mem_map.1 hy
      have := hsz s (List.mem_of_mem_take hs)
      rw [size_list] at this
      omega

end Go.Proofs.YthekblmkcfkboaaDoor
