/- A slice of bytes among the arguments, opened as one list of bytes. -/
import Derived.Test.YthekblmkcfkboaaDoorWBareL
import Derived.Test.YthekblmkcfkboaaDoorWOpen
import Derived.ChangeSlices
namespace Go.Proofs.YthekblmkcfkboaaDoor
open Go.RowKit U8
open Go.ChangeShapes Go.WideShapes

theorem cells_u8 : Tryd.prog.cellsOf 5 = 1 := by kernel_rfl
theorem open_bytes {H : Type} {enc : TypeId × Value → H} {W : World} {a0 : Option Addr} {len cap fuel : Nat} {x : DataW H × List MemPlace}
    (hf : DataW.trod enc Tryd.prog W 0 (fun _ => true) true fuel 23 [.slice a0 len cap] = some x) :
    ∃ l : List UInt8, Bx W (.slice a0 len cap) l ∧ l.length ≤ 9223372036854775807 := by
  rcases open_ints Tryd.underlying23 Tryd.underlying5 cells_u8 hf with ⟨hcs, hx⟩ | ⟨a, len', cap', zs, hcs, _, hl, hm, hz, hx, hcell, hwf⟩
  · simp at hcs
    obtain ⟨rfl, rfl, rfl⟩ := hcs
    exact ⟨[], ⟨none, 0, rfl, fun j y h => by simp at h⟩, by simp⟩
  · simp at hcs
    obtain ⟨rfl, rfl, rfl⟩ := hcs
    simp only [if_true] at hz
    unfold maxLen at hm
    have hlen : ((zs.take len).map fun z => UInt8.ofNat z.toNat).length = len := by simp; omega
    refine ⟨(zs.take len).map fun z => UInt8.ofNat z.toNat, ⟨some a, cap, by rw [hlen], fun j b hj => ?_⟩, by rw [hlen]; omega⟩
    have hjl : j < len := by
      have := (List.getElem?_eq_some_iff.1 hj).1
      omega
    obtain ⟨g, off, spot⟩ := a
    have hc := hcell j (by omega)
    have hspot : spot = none := by simpa [Addr.add] using World.cell?_spot (hcell 0 (by omega))
    subst hspot
    refine ⟨g, off, rfl, ?_⟩
    have hzz : j < zs.length := by omega
    rw [List.getElem?_map, List.getElem?_take_of_lt hjl, List.getElem?_eq_getElem hzz] at hj
    have hb : UInt8.ofNat (zs[j]).toNat = b := by simpa using hj
    have hgd : zs.getD j 0 = zs[j] := by simp [List.getD, List.getElem?_eq_getElem hzz]
    have hw := hwf zs[j] (List.getElem_mem hzz)
    simp [Lit.wf, IntKind.min, IntKind.max, IntKind.signed, IntKind.bits] at hw
    rw [hgd] at hc
    have e1 : (⟨g, off, none⟩ : Addr).add j = ⟨g, off + j, none⟩ := by simp [Addr.add]
    rw [e1] at hc
    rw [hc, ← hb]
    have e2 : ((UInt8.ofNat (zs[j]).toNat).toNat : Int) = zs[j] := by
      rw [UInt8.toNat_ofNat']
      omega
    rw [e2]

end Go.Proofs.YthekblmkcfkboaaDoor
