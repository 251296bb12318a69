/- A text as a row of characters: its world. -/
import Derived.Test.YthekblmkcfkboaaDoorWBase
namespace Go.Proofs.YthekblmkcfkboaaDoor
open Go.RowKit U8
open Go.Lib hiding intOf

theorem runesFrom_enc : ∀ (rest done : List Nat) (bound : Nat) (acc : Array Value), Scs rest → rest.length ≤ bound → Conv.runesFrom (txt (enc (done ++ rest))) bound (enc done).length acc = acc ++ (cells rest).toArray
  | [], done, 0, acc, _, _ => by simp [Conv.runesFrom, cells]
  | [], done, b + 1, acc, _, _ => by
    unfold Conv.runesFrom
    rw [if_neg (by rw [List.append_nil, txt_size]; omega)]
    simp [cells]
  | r :: rest, done, 0, acc, _, h => by simp at h
  | r :: rest, done, b + 1, acc, hs, h => by
    have hp : (enc done).length < (txt (enc (done ++ r :: rest))).size := by
      have := enc1_pos r
      rw [txt_size, enc_append, List.length_append, enc_cons, List.length_append]; omega
    unfold Conv.runesFrom
    rw [if_pos hp, decode_txt done rest r hs.head]
    have ih := runesFrom_enc rest (done ++ [r]) b (acc.push (.int .i32 (r : Int))) hs.tail (by simpa using h)
    rw [List.append_assoc, enc_append done [r], enc_one, List.length_append] at ih
    simp only [List.singleton_append] at ih
    refine Eq.trans ih ?_
    simp [cells]
def runesWorld (w : World) (rs : List Nat) : World :=
  w.drew.alloc (.cells ((cells rs).toArray ++ Array.replicate (grownCap w rs.length 0 21 - rs.length) (.int .i32 0)) 21)
theorem run_text_runes (w : World) (rs : List Nat) (h : Scs rs) (hl : rs.length ≤ 1000000) :
    (convert 9 51 (.string (txt (enc rs)))).run Tryd.prog w = .ok (.slice (some ⟨w.heap.size, 0, none⟩) rs.length (grownCap w rs.length 0 21)) (runesWorld w rs) := by
  have e : Conv.runesFrom (txt (enc rs)) (txt (enc rs)).size 0 #[] = (cells rs).toArray := by
    have := runesFrom_enc rs [] (txt (enc rs)).size #[] h (by rw [txt_size]; exact enc_length_ge rs)
    simpa [enc] using this
  have hsz : (cells rs).toArray.size = rs.length := by simp [cells]
  have := run_runes_of_string (P := Tryd.prog) w 9 51 21 (txt (enc rs)) Tryd.underlying9 Tryd.underlying51 Tryd.underlying21 (by rw [e, hsz]; omega)
  rw [e, hsz] at this
  exact this
theorem runesWorld_size (w : World) (rs : List Nat) : (runesWorld w rs).heap.size = w.heap.size + 1 := by unfold runesWorld; simp
theorem runesWorld_below {B : Nat} {w W : World} (hb : Below B w W) (hB : B ≤ W.heap.size) (rs : List Nat) : Below B w (runesWorld W rs) := hb.drew.alloc hB _
theorem runesWorld_cell (w : World) (rs : List Nat) (j : Nat) (hj : j < rs.length) : (runesWorld w rs).cell? ⟨w.heap.size, j, none⟩ = (cells rs)[j]? := by
  have h := World.cell?_alloc_mark w.drew ((cells rs).toArray ++ Array.replicate (grownCap w rs.length 0 21 - rs.length) (.int .i32 0)) 21 (0, 0) j
  have e : (runesWorld w rs).cell? ⟨w.heap.size, j, none⟩ = _ := h
  rw [e, Array.getElem?_append_left (by simpa [cells] using hj)]
  simp
theorem runesWorld_frozen (w : World) (rs : List Nat) (j : Nat) : (runesWorld w rs).frozen? ⟨w.heap.size, j, none⟩ = false := by
  have h := World.frozen?_alloc_mark w.drew ((cells rs).toArray ++ Array.replicate (grownCap w rs.length 0 21 - rs.length) (.int .i32 0)) 21 0 0 j
  have e : (runesWorld w rs).frozen? ⟨w.heap.size, j, none⟩ = _ := h
  rw [e]; simp

end Go.Proofs.YthekblmkcfkboaaDoor
