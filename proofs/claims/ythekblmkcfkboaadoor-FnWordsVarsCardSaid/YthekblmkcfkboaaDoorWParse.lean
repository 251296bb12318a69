/- Parse, without variables: its walk. -/
import Derived.Test.YthekblmkcfkboaaDoorWFlush
import Derived.Test.YthekblmkcfkboaaDoorPcs
import Derived.Deep.RegionLaw
import Derived.BigQuiet
import Derived.Deep.QuietTactic
import Derived.Deep.CutBlock
namespace Go.Proofs.YthekblmkcfkboaaDoor
open Go.RowKit U8
open Go.Lib hiding intOf

theorem Tryd.infoByte : (Tryd.prog.info? 5).map (fun i => (i.zero, i.size, i.bytes)) = some (some (.int .u8 0), 1, 1) := by kernel_rfl
theorem next_part (W : World) (k : Nat) (p a rest : List UInt8) (r : Nat) (hk : W.heap[k]? = some (.stringIter (txt (p ++ (a ++ rest))) p.length)) (ha : a ≠ []) (hd : decodeL (a ++ rest) = (r, a.length)) (ty : TypeId) :
    (Instr.next (.pointer (some ⟨k, 0, none⟩)) true ty).run Tryd.prog W = .ok (.tuple #[.bool true, .int .i64 p.length, .int .i32 r]) (W.iterAt k (txt (p ++ (a ++ rest))) (p ++ a).length) := by
  have hl : 0 < a.length := List.length_pos_iff.2 ha
  have hdec : Utf8.decode (txt (p ++ (a ++ rest))) p.length = (r, a.length) := by
    rw [← decodeL_drop, txt_list, List.drop_left]; exact hd
  rw [run_next_any_at W k _ _ ty hk (by rw [txt_size, List.length_append, List.length_append]; omega), hdec, List.length_append]
/-- The blocks with which Parse begins. -/
theorem pw_start (w w0 w2 : World) (T : ByteArray) (va vb : Value) (h0 : w.grownBy w0 none) (o0 : w0.ownsRow w.heap.size 9 1 va 0 []) (h2 : (w0.alloc (.cells #[va] 22)).grownBy w2 none) (o2 : w2.ownsRow w.heap.size 5 1 vb 0 []) (hn : vb.ownBlock ≠ none) :
    PW w w0.heap.size w2.heap.size (w2.heap.size + 1) (w2.heap.size + 1 + 1) (w2.heap.size + 1 + 1 + 1) (w2.heap.size + 1 + 1 + 1 + 1) T 0 vb (.slice none 0 0) [] [] [] 0 false
      (((((w2.alloc (.cells #[vb] 23)).alloc (.cells #[.int .i64 0] 58)).alloc (.cells #[.bool false] 4)).alloc (.cells #[.bool false] 4)).iter T 0) ∧
    PB w.heap.size w0.heap.size w2.heap.size (w2.heap.size + 1) (w2.heap.size + 1 + 1) (w2.heap.size + 1 + 1 + 1) := by
  have s0 := h0.size
  have s2 := h2.size
  simp at s2
  have hA : w2.heap[w0.heap.size]? = some (.cells #[va] 22 (0, 0)) := by
    rw [h2.block _ (by simp) (by simp)]; exact heap_alloc_new _ _
  have oA : w2.ownsRow w.heap.size 9 1 va 0 [] := owns_keep o0 (fun x hx => by
    have := (World.ownsRow.lt o0 x hx).2
    rw [h2.block _ (by simp; omega) (by simp)]; exact alloc_old _ _ _ this)
  obtain ⟨q1, e1⟩ : ∃ q1, w2.alloc (.cells #[vb] 23) = q1 := ⟨_, rfl⟩
  obtain ⟨q2, e2⟩ : ∃ q2, q1.alloc (.cells #[.int .i64 0] 58) = q2 := ⟨_, rfl⟩
  obtain ⟨q3, e3⟩ : ∃ q3, q2.alloc (.cells #[.bool false] 4) = q3 := ⟨_, rfl⟩
  obtain ⟨q4, e4⟩ : ∃ q4, q3.alloc (.cells #[.bool false] 4) = q4 := ⟨_, rfl⟩
  obtain ⟨q5, e5⟩ : ∃ q5, q4.iter T 0 = q5 := ⟨_, rfl⟩
  have z1 : q1.heap.size = w2.heap.size + 1 := by rw [← e1]; simp
  have z2 : q2.heap.size = w2.heap.size + 1 + 1 := by rw [← e2]; simp [z1]
  have z3 : q3.heap.size = w2.heap.size + 1 + 1 + 1 := by rw [← e3]; simp [z2]
  have z4 : q4.heap.size = w2.heap.size + 1 + 1 + 1 + 1 := by rw [← e4]; simp [z3]
  have k1 : ∀ x, x < w2.heap.size → q1.heap[x]? = w2.heap[x]? := fun x hx => by rw [← e1]; exact alloc_old _ _ _ hx
  have k2 : ∀ x, x < w2.heap.size + 1 → q2.heap[x]? = q1.heap[x]? := fun x hx => by rw [← e2]; exact alloc_old _ _ _ (by omega)
  have k3 : ∀ x, x < w2.heap.size + 1 + 1 → q3.heap[x]? = q2.heap[x]? := fun x hx => by rw [← e3]; exact alloc_old _ _ _ (by omega)
  have k4 : ∀ x, x < w2.heap.size + 1 + 1 + 1 → q4.heap[x]? = q3.heap[x]? := fun x hx => by rw [← e4]; exact alloc_old _ _ _ (by omega)
  have k5 : ∀ x, x < w2.heap.size + 1 + 1 + 1 + 1 → q5.heap[x]? = q4.heap[x]? := fun x hx => by
    rw [← e5, show q4.iter T 0 = q4.alloc (.stringIter T 0) from rfl]; exact alloc_old _ _ _ (by omega)
  have kk : ∀ x, x < w2.heap.size → q5.heap[x]? = w2.heap[x]? := fun x hx => by rw [k5 x (by omega), k4 x (by omega), k3 x (by omega), k2 x (by omega), k1 x hx]
  have n1 : q1.heap[w2.heap.size]? = some (.cells #[vb] 23 (0, 0)) := by rw [← e1]; exact heap_alloc_new _ _
  have n2 : q2.heap[w2.heap.size + 1]? = some (.cells #[.int .i64 0] 58 (0, 0)) := by rw [← z1, ← e2]; exact heap_alloc_new _ _
  have n3 : q3.heap[w2.heap.size + 1 + 1]? = some (.cells #[.bool false] 4 (0, 0)) := by rw [← z2, ← e3]; exact heap_alloc_new _ _
  have n4 : q4.heap[w2.heap.size + 1 + 1 + 1]? = some (.cells #[.bool false] 4 (0, 0)) := by rw [← z3, ← e4]; exact heap_alloc_new _ _
  have n5 : q5.heap[w2.heap.size + 1 + 1 + 1 + 1]? = some (.stringIter T 0) := by rw [← z4, ← e5]; exact World.iter_heap _ _ _
  have hb0 : Below w.heap.size w w0 := ⟨h0.os, h0.tape, h0.output, h0.size, fun x hx => h0.block x hx (by simp)⟩
  have hb1 := hb0.alloc s0 (.cells #[va] 22)
  have hb2 : Below w.heap.size w w2 := hb1.trans ⟨h2.os, h2.tape, h2.output, h2.size, fun x hx => h2.block x (by simp; omega) (by simp)⟩
  have hb5 : Below w.heap.size w q5 := by
    rw [← e5, ← e4, ← e3, ← e2, ← e1]
    refine Below.alloc (Below.alloc (Below.alloc (Below.alloc (hb2.alloc (by omega) _) (by simp; omega) _) (by simp; omega) _) (by simp; omega) _) (by simp; omega) _
  rw [e1, e2, e3, e4, e5]
  refine ⟨⟨?_, ?_, ?_, ?_, owns_keep o2 (fun x hx => kk x (World.ownsRow.lt o2 x hx).2), ⟨va, ?_, owns_keep oA (fun x hx => kk x (World.ownsRow.lt oA x hx).2)⟩, World.ownsRow_nil _ _ _ _, fun _ _ h => (by cases h), hb5, n5, by omega, hn⟩, ⟨by omega, by omega, by omega, by omega, by omega, by omega, by omega, by omega, by omega, by omega, by omega, by omega, by omega, by omega, by omega⟩⟩
  · rw [k5 _ (by omega), k4 _ (by omega), k3 _ (by omega)]; exact n2
  · rw [k5 _ (by omega), k4 _ (by omega)]; exact n3
  · rw [k5 _ (by omega)]; exact n4
  · rw [k5 _ (by omega), k4 _ (by omega), k3 _ (by omega), k2 _ (by omega)]; exact n1
  · rw [kk _ (by omega)]; exact hA

end Go.Proofs.YthekblmkcfkboaaDoor
