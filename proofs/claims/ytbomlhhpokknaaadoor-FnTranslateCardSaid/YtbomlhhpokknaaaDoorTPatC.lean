/- Pattern of the reference at a text that is no UTF-8. -/
import Derived.Test.YtbomlhhpokknaaaDoorTPatR
namespace Go.Proofs.YtbomlhhpokknaaaDoor
open Go.RowKit U8
open Go.Lib hiding intOf

set_option maxHeartbeats 1600000 in
set_option maxRecDepth 100000 in
theorem pat_bad (tt : Bool) (s : ByteArray) (w : World) (hs : s.size ≤ 2147483647) (hv : validD s.data.toList = false) (hT : Tabs w) :
    Calls Tryd.prog 29 #[.string s, .bool tt] w fun e w' => Below w.heap.size w w' ∧ e = .returned (.tuple #[.agg #[.slice none 0 0, .bool false], .int .i64 2]) := by
  have b1 := (Below.refl w.heap.size w).alloc (Nat.le_refl _) (.cells #[.slice none 0 0, .bool false] 51)
  have b2 := b1.alloc b1.size (.cells #[.slice none 0 0, .bool false] 51)
  have e2 : ((w.alloc (.cells #[.slice none 0 0, .bool false] 51)).alloc (.cells #[.slice none 0 0, .bool false] 51)).heap.size = w.heap.size + 1 + 1 := by simp
  have cS := settled1 s false ((w.alloc (.cells #[.slice none 0 0, .bool false] 51)).alloc (.cells #[.slice none 0 0, .bool false] 51)) (by omega) (hT.below b2) hv
  rw [e2] at cS
  have CS := Lib.hid cS
  have hk1 : Hid (((w.alloc (.cells #[.slice none 0 0, .bool false] 51)).alloc (.cells #[.slice none 0 0, .bool false] 51)).heap[w.heap.size]? = some (.cells #[.slice none 0 0, .bool false] 51 (0, 0))) := by
    show _ = _
    rw [Below.heap_alloc _ _ _ (by simp)]
    exact heap_alloc_new _ _
  have hk2 : Hid (((w.alloc (.cells #[.slice none 0 0, .bool false] 51)).alloc (.cells #[.slice none 0 0, .bool false] 51)).heap[w.heap.size + 1]? = some (.cells #[.slice none 0 0, .bool false] 51 (0, 0))) := by
    show _ = _
    have h := heap_alloc_new (w.alloc (.cells #[.slice none 0 0, .bool false] 51)) (.cells #[.slice none 0 0, .bool false] 51)
    rw [show (w.alloc (.cells #[.slice none 0 0, .bool false] 51)).heap.size = w.heap.size + 1 by simp] at h
    exact h
  have HB2 := Lib.hid b2
  clear b1 b2 cS e2
  go_enter Tryd.func29, Tryd.ntmps29
  go_wp2_with fail
  refine CS.out.mono ?_
  rintro e w1 ⟨rfl, hb1⟩
  have hs1 : w.heap.size + 1 + 1 ≤ w1.heap.size := by have := hb1.size; simp at this; omega
  have HBW := Lib.hid (HB2.out.trans (hb1.mono (by omega)))
  have hg1 : w1.heap[w.heap.size]? = some (.cells #[.slice none 0 0, .bool false] 51 (0, 0)) := by rw [hb1.block _ (by omega)]; exact hk1.out
  have hg2 : w1.heap[w.heap.size + 1]? = some (.cells #[.slice none 0 0, .bool false] 51 (0, 0)) := by rw [hb1.block _ (by omega)]; exact hk2.out
  have c0 : w1.cell? ⟨w.heap.size + 1, 0, none⟩ = some (.slice none 0 0) := by simp [World.cell?, hg2]
  have c1 : w1.cell? ⟨w.heap.size + 1, 1, none⟩ = some (.bool false) := by simp [World.cell?, hg2]
  have c2 : w1.cell? ⟨w.heap.size, 0, none⟩ = some (.slice none 0 0) := by simp [World.cell?, hg1]
  have c3 : w1.cell? ⟨w.heap.size, 1, none⟩ = some (.bool false) := by simp [World.cell?, hg1]
  have f2 : w1.frozen? ⟨w.heap.size, 0, none⟩ = false := by simp [World.frozen?, hg1]
  have f3 : w1.frozen? ⟨w.heap.size, 1, none⟩ = false := by simp [World.frozen?, hg1]
  have d1 := cells_set hg1 0 (.slice none 0 0)
  have d2 := cells_set d1 1 (.bool false)
  have HQ := Lib.hid (show ((w1.setCell ⟨w.heap.size, 0, none⟩ (.slice none 0 0)).setCell ⟨w.heap.size, 1, none⟩ (.bool false)).cell? ⟨w.heap.size, 0, none⟩ = some (.slice none 0 0) ∧ ((w1.setCell ⟨w.heap.size, 0, none⟩ (.slice none 0 0)).setCell ⟨w.heap.size, 1, none⟩ (.bool false)).cell? ⟨w.heap.size, 1, none⟩ = some (.bool false) from ⟨by simp [World.cell?, d2], by simp [World.cell?, d2]⟩)
  have HQB := Lib.hid (show Below w.heap.size w ((w1.setCell ⟨w.heap.size, 0, none⟩ (.slice none 0 0)).setCell ⟨w.heap.size, 1, none⟩ (.bool false)) from (HBW.out.setCell (Nat.le_refl _) _).setCell (Nat.le_refl _) _)
  have hx0 : w.heap.size < w1.heap.size := by omega
  have hx1 : w.heap.size + 1 < w1.heap.size := by omega
  clear hs1 hg1 hg2 d1 d2 hk1 hk2 HB2 hb1 CS
  go_wp2
  (try simp only [Exit.inBlock, Exit.then])
  refine bodyPost_ret (pat_results rfl rfl HQ.out.1 HQ.out.2) rfl ?_
  exact ⟨HQB.out, rfl⟩

end Go.Proofs.YtbomlhhpokknaaaDoor
