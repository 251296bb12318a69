/- Which lists of properties the laws speak of: laws.small, laws.listed without comments, what fits. -/
import Derived.Test.YtmmnljepbnifnaaDoorGText
import Derived.Test.YtmmnljepbnifnaaDoorPcs
namespace Go.Proofs.YtmmnljepbnifnaaDoor
open Go.RowKit U8
open Go.Lib hiding intOf

/-- Some answer, and the world below. -/
def SomeB (w : World) (e : Ending) (w' : World) : Prop := ∃ q : Bool, e = .returned (.bool q) ∧ Below w.heap.size w w'
theorem next_part (W : World) (k : Nat) (p a rest : List UInt8) (r : Nat) (hk : W.heap[k]? = some (.stringIter (txt (p ++ (a ++ rest))) p.length)) (ha : a ≠ []) (hd : decodeL (a ++ rest) = (r, a.length)) (ty : TypeId) :
    (Instr.next (.pointer (some ⟨k, 0, none⟩)) true ty).run Tryd.prog W = .ok (.tuple #[.bool true, .int .i64 p.length, .int .i32 r]) (W.iterAt k (txt (p ++ (a ++ rest))) (p ++ a).length) := by
  have hl : 0 < a.length := List.length_pos_iff.2 ha
  have hdec : Utf8.decode (txt (p ++ (a ++ rest))) p.length = (r, a.length) := by
    rw [← decodeL_drop, txt_list, List.drop_left]; exact hd
  rw [run_next_any_at W k _ _ ty hk (by rw [txt_size, List.length_append, List.length_append]; omega), hdec, List.length_append]
set_option maxHeartbeats 3200000 in
set_option maxRecDepth 100000 in
theorem small_some (l : List UInt8) (w : World) : Calls Tryd.prog 17 #[.string (txt l)] w (SomeB w) := by
  go_enter Tryd.func17, Tryd.ntmps17
  go_wp2
  go_loopg [4] (l.length + 1) (fun gk v4 wr => ∃ p rest : List UInt8, Hid (l = p ++ rest) ∧ wr.heap[w.heap.size]? = some (.stringIter (txt l) p.length) ∧ rest.length < gk ∧ Hid (Below w.heap.size w wr))
  case atStart => exact ⟨[], l, rfl, World.iter_heap _ _ _, by omega, (Below.refl _ _).alloc (Nat.le_refl _) _⟩
  case round =>
    obtain ⟨p, rest, HL, hi, hg, HBw⟩ := hrel
    have hbs := HBw.out.size
    have hlt : w.heap.size < wr.heap.size := (Array.getElem?_eq_some_iff.1 hi).1
    by_cases hne : rest = []
    · subst hne
      have hp : ¬ p.length < (txt l).size := by rw [HL.out, List.append_nil, txt_size]; omega
      have hny := fun ty => @run_next_end_at Tryd.prog wr w.heap.size _ _ ty hi hp
      clear hp
      go_wp2
      go_ret
      exact ⟨true, rfl, HBw.out⟩
    · obtain ⟨a, rest2, r, rfl, ha, hd, hr, _⟩ := first_part rest hne
      have hal := List.length_pos_iff.2 ha
      have hri := hr.i32
      rw [List.length_append] at hg
      obtain ⟨gk, rfl⟩ : ∃ m, gk = m + 1 := ⟨gk - 1, by omega⟩
      have hny : ∀ ty, (Instr.next (.pointer (some ⟨w.heap.size, 0, none⟩)) true ty).run Tryd.prog wr = .ok (.tuple #[.bool true, .int .i64 p.length, .int .i32 r]) (wr.iterAt w.heap.size (txt l) (p ++ a).length) := fun ty => by
        have := next_part wr w.heap.size p a rest2 r (HL.out ▸ hi) ha hd ty
        rw [← HL.out] at this
        exact this
      have HI2 := Lib.hid (iterAt_heap wr w.heap.size (txt l) _ (p ++ a).length hi)
      have HB2 := Lib.hid (below_iterAt HBw.out (Nat.le_refl _) (txt l) (p ++ a).length)
      have HL2 : Hid (l = (p ++ a) ++ rest2) := by show _ = _; rw [List.append_assoc]; exact HL.out
      generalize wr.iterAt w.heap.size (txt l) (p ++ a).length = wj at *
      obtain ⟨R, hR⟩ : ∃ R : Int, (r : Int) = R := ⟨_, rfl⟩
      rw [hR] at hny
      clear hi hd hne hr hri hR
      go_wp2
      all_goals first
        | (go_ret; exact ⟨false, rfl, HB2.out⟩)
        | (go_roundg gk; exact ⟨p ++ a, rest2, HL2.out, HI2.out, by omega, HB2.out⟩; omega)

end Go.Proofs.YtmmnljepbnifnaaDoor
