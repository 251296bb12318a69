/- A slice of bytes among the arguments; from what a row lists of the tables and sentinels to what the walks ask of a world. -/
import Derived.Test.YtmmnljepbnifnaaDoorEMar
import Derived.Test.YtmmnljepbnifnaaDoorTMap
import Derived.Lib.LaidU8
import Derived.Test.YtmmnljepbnifnaaDoorRows
import Derived.ChangeSlices
namespace Go.Proofs.YtmmnljepbnifnaaDoor
open Go.RowKit U8
open Go.Lib hiding intOf

def Bx (w : World) (v : Value) (l : List UInt8) : Prop := ∃ ao cap, v = .slice ao l.length cap ∧ ∀ (j : Nat) (b : UInt8), l[j]? = some b → ∃ g o, ao = some ⟨g, o, none⟩ ∧ w.cell? ⟨g, o + j, none⟩ = some (.int .u8 b.toNat)
section
open Go.Shelf
theorem tabIs_of_reads {P : Program} {W : World} {name : String} {k : IntKind} {zs : List Int} {g : Nat} {t e : TypeId} {n : Nat}
    (hg : P.globalNamed name = some g) (hty : (P.globals[g]?).map (·.type) = some t) (ht : P.underlying t = some (.array n e)) (he : P.underlying e = some (.int k)) (hce : P.cellsOf e = 1) (hct : P.cellsOf t = n)
    (h : VarReads P W name (tabData k zs)) : TabIs P W name k zs := by
  obtain ⟨g', t', cs, fuel, p, hg', ht', hvar, hd⟩ := h
  obtain rfl := Option.some.inj (hg.symm.trans hg')
  obtain rfl := Option.some.inj (hty.symm.trans ht')
  unfold TabIs
  rw [hvar, ← cells_of_tab ht he hce hct hd]

theorem et_of {W : World} (h1 : VarReads Tryd.prog W "strconv.ErrSyntax" Rows.laid_strconv_ErrSyntax) (h2 : VarReads Tryd.prog W "strconv.ErrRange" Rows.laid_strconv_ErrRange) (h3 : VarReads Tryd.prog W "internal/strconv.uint64pow10" (tabData .u64 pow10Tab)) : Et W :=
  ⟨sentinel_of 3 53 _ (by kernel_rfl) (by kernel_rfl) Tryd.underlying53 h1,
   sentinel_of 4 53 _ (by kernel_rfl) (by kernel_rfl) Tryd.underlying53 h2,
   tabIs_of_reads (g := 5) (t := 154) (e := 94) (by kernel_rfl) (by kernel_rfl) Tryd.underlying154 Tryd.underlying94 (by kernel_rfl) (by kernel_rfl) h3⟩
end
section
open Go.ChangeShapes Go.WideShapes
theorem cells_u8 : Tryd.prog.cellsOf 5 = 1 := by kernel_rfl
theorem open_bytes {H : Type} {enc : TypeId × Value → H} {W : World} {a0 : Option Addr} {len cap fuel : Nat} {x : DataW H × List MemPlace}
    (hf : DataW.trod enc Tryd.prog W 0 (fun _ => true) true fuel 32 [.slice a0 len cap] = some x) :
    ∃ l : List UInt8, Bx W (.slice a0 len cap) l ∧ l.length ≤ 9223372036854775807 := by
  rcases open_ints Tryd.underlying32 Tryd.underlying5 cells_u8 hf with ⟨hcs, hx⟩ | ⟨a, len', cap', zs, hcs, _, hl, hm, hz, hx, hcell, hwf⟩
  · simp at hcs
    obtain ⟨rfl, rfl, rfl⟩ := hcs
    exact ⟨[], ⟨none, 0, rfl, fun j y h => by simp at h⟩, by simp⟩
  · simp at hcs
    obtain ⟨rfl, rfl, rfl⟩ := hcs
    simp only [if_true] at hz
    unfold maxLen at hm
    have hlen : ((zs.take len).map fun z => UInt8.ofNat z.toNat).length = len := by simp; omega
    refine ⟨(zs.take len).map fun z => UInt8.ofNat z.toNat, ⟨some a, cap, by rw [hlen], fun j b hj => ?_⟩, by rw [hlen]; omega⟩
    have hjl : j < len := by
      have := (List.getElem?_eq_some_iff.1 hj).1
      omega
    obtain ⟨g, off, spot⟩ := a
    have hc := hcell j (by omega)
    have hspot : spot = none := by simpa [Addr.add] using World.cell?_spot (hcell 0 (by omega))
    subst hspot
    refine ⟨g, off, rfl, ?_⟩
    have hzz : j < zs.length := by omega
    rw [List.getElem?_map, List.getElem?_take_of_lt hjl, List.getElem?_eq_getElem hzz] at hj
    have hb : UInt8.ofNat (zs[j]).toNat = b := by simpa using hj
    have hgd : zs.getD j 0 = zs[j] := by simp [List.getD, List.getElem?_eq_getElem hzz]
    have hw := hwf zs[j] (List.getElem_mem hzz)
    simp [Lit.wf, IntKind.min, IntKind.max, IntKind.signed, IntKind.bits] at hw
    rw [hgd] at hc
    have e1 : (⟨g, off, none⟩ : Addr).add j = ⟨g, off + j, none⟩ := by simp [Addr.add]
    rw [e1] at hc
    rw [hc, ← hb]
    have e2 : ((UInt8.ofNat (zs[j]).toNat).toNat : Int) = zs[j] := by
      rw [UInt8.toNat_ofNat']
      omega
    rw [e2]

end
end Go.Proofs.YtmmnljepbnifnaaDoor
