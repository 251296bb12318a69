/- Which lists of properties the laws speak of: laws.small, laws.listed without comments, what fits. -/
import Derived.Test.YtdfhidnhkeapbaaDoorGText
import Derived.Test.YtdfhidnhkeapbaaDoorPcs
namespace Go.Proofs.YtdfhidnhkeapbaaDoor
open Go.RowKit U8
open Go.Lib hiding intOf

/-- Some answer, and the world below. -/
def SomeB (w : World) (e : Ending) (w' : World) : Prop := ∃ q : Bool, e = .returned (.bool q) ∧ Below w.heap.size w w'
theorem next_part (W : World) (k : Nat) (p a rest : List UInt8) (r : Nat) (hk : W.heap[k]? = some (.stringIter (txt (p ++ (a ++ rest))) p.length)) (ha : a ≠ []) (hd : decodeL (a ++ rest) = (r, a.length)) (ty : TypeId) :
    (Instr.next (.pointer (some ⟨k, 0, none⟩)) true ty).run Tryd.prog W = .ok (.tuple #[.bool true, .int .i64 p.length, .int .i32 r]) (W.iterAt k (txt (p ++ (a ++ rest))) (p ++ a).length) := by
  have hl : 0 < a.length := List.length_pos_iff.2 ha
  have hdec : Utf8.decode (txt (p ++ (a ++ rest))) p.length = (r, a.length) := by
    rw [← decodeL_drop, txt_list, List.drop_left]; exact hd
  rw [run_next_any_at W k _ _ ty hk (by rw [txt_size, List.length_append, List.length_append]; omega), hdec, List.length_append]
end Go.Proofs.YtdfhidnhkeapbaaDoor
