/- The reference's Set.has: its walk. -/
import Derived.Test.YtbomlhhpokknaaaDoorTPatC
namespace Go.Proofs.YtbomlhhpokknaaaDoor
open Go.RowKit U8
open Go.Lib hiding intOf

theorem run_text {w : World} {base : Nat} {v : Value} {n : Nat} (rs : List Nat) (h : Scs rs) (hown : w.ownsRow base 21 1 v n (cells rs)) :
    (convert 49 9 v).run Tryd.prog w = .ok (.string (txt (enc rs))) w := by
  have hn : rs.length = n := by have := hown.1; rw [cells_length] at this; omega
  rcases hown.2 with ⟨rfl, h0⟩ | ⟨g, cap, cur, rfl, _⟩
  · have : rs = [] := List.eq_nil_of_length_eq_zero (by omega)
    subst this
    exact run_convert_runes_nil w _ _ 21 0 0 Tryd.underlying49 Tryd.underlying21 Tryd.underlying9
  · have hc := World.ownsRow.cells hown (g := g) rfl
    rw [run_convert_runes w _ _ 21 ⟨g, 0, none⟩ n cap (rs.map fun (r : Nat) => (r : Int)) (by simp; omega) Tryd.underlying49 Tryd.underlying21 Tryd.underlying9]
    · rw [List.take_of_length_le (by simp; omega), runesBytes_enc rs h]
    · intro j hj
      rw [List.length_map] at hj
      apply hc j
      rw [cells_get, List.getElem?_eq_getElem hj]
      simp [List.getD, List.getElem?_eq_getElem hj]

/-- Is a character in the set? -/
def inS (L : List Nat) (nt : Bool) (c : Nat) : Bool := L.any (· == c) != nt
set_option maxHeartbeats 1600000 in
set_option maxRecDepth 100000 in
theorem has_any (L : List Nat) (nt : Bool) (ao : Option Addr) (cap B c : Nat) (w : World) (hl : L.length ≤ 9223372036854775807) (hown : w.ownsRow B 21 1 (.slice ao L.length cap) L.length (cells L)) :
    Calls Tryd.prog 30 #[.agg #[.slice ao L.length cap, .bool nt], .int .i32 c] w fun e w' => e = .returned (.bool (inS L nt c)) ∧ Below w.heap.size w w' := by
  obtain ⟨R, hR⟩ : ∃ R, inS L nt c = R := ⟨_, rfl⟩
  rw [hR]
  have HA : Hid (R = (L.any (· == c) != nt)) := hR.symm
  clear hR
  obtain ⟨W, hW⟩ : ∃ W, w.alloc (.cells #[.slice ao L.length cap, .bool nt] 51) = W := ⟨_, rfl⟩
  have hbW : Below w.heap.size w W := by rw [← hW]; exact (Below.refl _ _).alloc (Nat.le_refl _) _
  have hoW : W.heap[w.heap.size]? = some (.cells #[.slice ao L.length cap, .bool nt] 51 (0, 0)) := by rw [← hW]; exact heap_alloc_new _ _
  have c0 : W.cell? ⟨w.heap.size, 0, none⟩ = some (.slice ao L.length cap) := by simp [World.cell?, hoW]
  have c1 : W.cell? ⟨w.heap.size, 1, none⟩ = some (.bool nt) := by simp [World.cell?, hoW]
  have HO := Lib.hid (owns_below hown hbW)
  have HW := Lib.hid hW
  have HB := Lib.hid hbW
  clear hown hoW hbW
  go_enter Tryd.func30, Tryd.ntmps30
  go_upto_region 1 with fail
  try rw [HW.out]
  clear hW
  go_upto_region 2 with fail
  go_loopg [10] (L.length + 1) (fun gk i wr => ∃ k : Nat, i = .int .i64 k ∧ k ≤ L.length ∧ L.length - k < gk ∧ Hid (R = ((L.drop k).any (· == c) != nt)) ∧ wr = W)
  case atStart => exact ⟨0, rfl, by omega, by omega, HA.out, rfl⟩
  case round =>
    obtain ⟨k, rfl, hk, hg, HR, hwr⟩ := hrel
    obtain rfl := hwr.symm
    clear HA
    obtain ⟨gk, rfl⟩ : ∃ m, gk = m + 1 := ⟨gk - 1, by omega⟩
    by_cases hlt : k < L.length
    · have hpos : 0 < L.length := by omega
      obtain ⟨ga, _, hga⟩ := owns_some HO.out hpos
      subst hga
      have hx := List.getElem?_eq_getElem hlt
      have hd := List.drop_eq_getElem_cons hlt
      generalize L[k] = x at hx hd
      have cx : W.cell? ⟨ga, k, none⟩ = some (.int .i32 ((x : Nat) : Int)) := by
        rw [World.ownsRow.cellAt HO.out _ (by omega), cells_get, hx]; rfl
      have HR1 := HR.out
      rw [hd, List.any_cons] at HR1
      clear hx hd HR
      by_cases hxc : x = c
      · subst hxc
        have HR2 : Hid (R = !nt) := by show _ = _; rw [HR1]; cases nt <;> simp
        clear HR1
        have he : ((x : Int) == (x : Int)) = true := by simp
        go_wp2
        go_ret
        exact ⟨by rw [HR2.out]; rfl, HB.out⟩
      · have HR2 : Hid (R = ((L.drop (k + 1)).any (· == c) != nt)) := by show _ = _; rw [HR1, beq_eq_false_iff_ne.2 hxc, Bool.false_or]
        have he : ((x : Int) == (c : Int)) = false := by simp; omega
        clear HR1
        go_wp2
        go_roundg gk
        case rel => exact ⟨k + 1, by go_num, by omega, by omega, HR2.out, rfl⟩
        case measure => omega
    · have HR2 : Hid (R = nt) := by
        show _ = _
        rw [HR.out, List.drop_eq_nil_of_le (by omega)]; cases nt <;> rfl
      clear HR
      go_wp2
      go_ret
      exact ⟨by rw [HR2.out]; rfl, HB.out⟩

end Go.Proofs.YtbomlhhpokknaaaDoor
