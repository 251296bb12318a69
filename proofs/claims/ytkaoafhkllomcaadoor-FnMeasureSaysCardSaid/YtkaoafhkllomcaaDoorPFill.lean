/- The reference's fill and ExpandTabs: their contracts. -/
import Derived.Test.YtkaoafhkllomcaaDoorPSpec
namespace Go.Proofs.YtkaoafhkllomcaaDoor
open Go.RowKit U8
open Go.Lib hiding intOf

/-- A list of characters that is owned, turned into a text. -/
theorem run_text {w : World} {base : Nat} {v : Value} {n : Nat} (rs : List Nat) (h : Scs rs) (hown : w.ownsRow base 21 1 v n (cells rs)) :
    (convert 40 9 v).run Tryd.prog w = .ok (.string (txt (enc rs))) w := by
  have hn : rs.length = n := by have := hown.1; rw [cells_length] at this; omega
  rcases hown.2 with ⟨rfl, h0⟩ | ⟨g, cap, cur, rfl, _⟩
  · have : rs = [] := List.eq_nil_of_length_eq_zero (by omega)
    subst this
    exact run_convert_runes_nil w _ _ 21 0 0 Tryd.underlying40 Tryd.underlying21 Tryd.underlying9
  · have hc := World.ownsRow.cells hown (g := g) rfl
    rw [run_convert_runes w _ _ 21 ⟨g, 0, none⟩ n cap (rs.map fun (r : Nat) => (r : Int)) (by simp; omega) Tryd.underlying40 Tryd.underlying21 Tryd.underlying9]
    · rw [List.take_of_length_le (by simp; omega), runesBytes_enc rs h]
    · intro j hj
      rw [List.length_map] at hj
      apply hc j
      rw [cells_get, List.getElem?_eq_getElem hj]
      simp [List.getD, List.getElem?_eq_getElem hj]

set_option maxHeartbeats 1600000 in
set_option maxRecDepth 100000 in
theorem fill_sp (n : Nat) (w : World) (hn : n ≤ 1000) :
    Calls Tryd.prog 52 #[.string ⟨#[32]⟩, .int .i64 n] w fun e w' => e = .returned (.string (txt (enc (List.replicate n 32)))) ∧ Below w.heap.size w w' := by
  obtain ⟨i0, hi, hz0, hz1, hz2⟩ := info_parts Tryd.info21
  have h32 : Scs [32] := by decide
  have hcv := run_text_runes w [32] h32 (by decide)
  rw [show txt (enc [32]) = (⟨#[32]⟩ : ByteArray) from rfl] at hcv
  have hc0 : (runesWorld w [32]).cell? ⟨w.heap.size, 0, none⟩ = some (.int .i32 32) := by rw [runesWorld_cell w [32] 0 (by decide)]; rfl
  have hb0 : Below w.heap.size w (runesWorld w [32]) := runesWorld_below (Below.refl _ _) (Nat.le_refl _) [32]
  have hz0' : (runesWorld w [32]).heap.size = w.heap.size + 1 := runesWorld_size w [32]
  generalize runesWorld w [32] = wa at *
  generalize grownCap w [32].length 0 21 = cap at *
  simp only [List.length_cons, List.length_nil, Nat.zero_add] at hcv
  go_enter Tryd.func52, Tryd.ntmps52
  go_wp2
  go_loopg [6, 7] (n + 1) (fun gk v i wr => ∃ k : Nat, k ≤ n ∧ i = .int .i64 k ∧ wr.ownsRow (w.heap.size + 1) 21 1 v k (cells (List.replicate k 32)) ∧ n - k < gk ∧ wr.cell? ⟨w.heap.size, 0, none⟩ = some (.int .i32 32) ∧ w.heap.size + 1 ≤ wr.heap.size ∧ Below w.heap.size w wr)
  case atStart => exact ⟨0, by omega, rfl, World.ownsRow_nil _ _ _ _, by omega, hc0, by omega, hb0⟩
  case round =>
    clear hc0 hb0 hcv
    obtain ⟨k, hk, rfl, hown, hg, hc, hsz, hb⟩ := hrel
    by_cases hkn : k < n
    · obtain ⟨gk, rfl⟩ : ∃ m, gk = m + 1 := ⟨gk - 1, by omega⟩
      go_wp2_with (at_builtin; refine wpList_append_own _ rfl _ _ 40 rfl (w.heap.size + 1) 21 i0 (.int .i32 0) 1 4 Tryd.underlying40 hi hz0 hz1 hz2 rfl (by decide) _ _ _ rfl (hown.alloc _) ⟨wr.heap.size, 0, none⟩ 1 1 [.int .i32 32] rfl rfl ?c1 ?c2 ?c3 ?c4 ?c5 ?_)
      case c1 =>
        intro j u hj
        match j, hj with
        | 0, hj => simp at hj; subst hj; simp [Addr.add]
      case c2 => intro u hu; simp at hu; subst hu; rfl
      case c3 => unfold maxLen; omega
      case c4 => omega
      case c5 => simp; omega
      intro v' w2 hown' hgrow _
      go_wp2
      go_roundg gk
      case rel =>
        have hlt : w.heap.size < wr.heap.size := by omega
        have hblk : w2.heap[w.heap.size]? = wr.heap[w.heap.size]? := by
          rw [hgrow.block w.heap.size (by simp; omega) (fun e => by have := (hown.lt _ e.symm).1; omega), alloc_old wr _ _ hlt]
        refine ⟨k + 1, by omega, by go_num, ?_, by omega, ?_, ?_, ?_⟩
        · rw [List.replicate_succ', cells_append]; exact hown'
        · unfold World.cell? at hc ⊢
          rw [hblk]; exact hc
        · have := hgrow.size; simp at this; omega
        · exact (hb.alloc (by omega) _).grown hgrow (by simp; omega) (fun j hj => by have := (hown.lt j hj).1; omega)
      case measure => omega
    · obtain rfl : k = n := by omega
      have hcv2 := run_text (List.replicate k 32) (fun x hx => by have := (List.mem_replicate.1 hx).2; subst this; unfold Sc; omega) hown
      clear hc hown
      go_wp2
      go_ret
      exact ⟨rfl, hb⟩

end Go.Proofs.YtkaoafhkllomcaaDoor
