/- properties.zzIndexRune, zzContainsRune at a character or at the end. No condition of its own beyond the size of the set. -/
import Derived.Test.YtdfhidnhkeapbaaGreatDoorGList
namespace Go.Proofs.YtdfhidnhkeapbaaGreatDoor
open Go.RowKit U8
open Go.Lib hiding intOf

def IndP (R : Bool) (w : World) (e : Ending) (w' : World) : Prop := ∃ z : Int, e = .returned (.int .i64 z) ∧ Below w.heap.size w w' ∧ -1 ≤ z ∧ z ≤ 140737488355328 ∧ (0 ≤ z ↔ R = true)
set_option maxHeartbeats 3200000 in
set_option maxRecDepth 100000 in
theorem irune_int (sp : List UInt8) (z : Int) (r : Nat) (w : World) (hz : z = r) (hr : Sc r) (hl : sp.length ≤ 1000000) :
    Calls Tryz.prog 145 #[.string (txt sp), .int .i32 z] w (IndP (hasR sp r) w) := by
  obtain ⟨R, hR⟩ : ∃ R, hasR sp r = R := ⟨_, rfl⟩
  rw [hR]
  have HR := Lib.hid hR.symm
  have hc : z = 65533 ∨ (¬ z = 65533 ∧ z < 55296) ∨ (¬ z = 65533 ∧ ¬ z < 55296 ∧ 57343 < z) := by unfold Sc at hr; omega
  have h0 : ¬ z < 0 := by omega
  have h1 : ¬ 1114111 < z := by unfold Sc at hr; omega
  have h4 : z ≤ 1114111 := by omega
  have HZ := Lib.hid hz
  clear hR hr hz
  rcases hc with rfl | ⟨h, h2⟩ | ⟨h, h2, h3⟩
  all_goals
    go_enter Tryz.func145, Tryz.ntmps145
    go_wp2
    all_goals (try (exfalso; omega))
    go_loopg [4] (sp.length + 1) (fun gk c wr => ∃ p rest : List UInt8, c = .int .i64 0 ∧ Hid (sp = p ++ rest) ∧ wr.heap[w.heap.size]? = some (.stringIter (txt sp) p.length) ∧ rest.length < gk ∧ Hid (R = hasR rest r) ∧ Below w.heap.size w wr)
    case atStart => exact ⟨[], sp, rfl, rfl, World.iter_heap _ _ _, by omega, HR.out, (Below.refl _ _).alloc (Nat.le_refl _) _⟩
    case round =>
      obtain ⟨p, rest, rfl, HT, hi, hg2, HO, hb⟩ := hrel
      have hbs := hb.size
      have hlt : w.heap.size < wr.heap.size := (Array.getElem?_eq_some_iff.1 hi).1
      by_cases hne : rest = []
      · subst hne
        have hp : ¬ p.length < (txt sp).size := by rw [HT.out, List.append_nil, txt_size]; omega
        have hny := fun ty => @run_next_end_at Tryz.prog wr w.heap.size _ _ ty hi hp
        have HF : Hid (R = false) := HO.out
        clear HO hp
        go_wp2
        go_ret
        exact ⟨-1, rfl, hb, by omega, by omega, by rw [HF.out]; simp⟩
      · obtain ⟨a, rest, x, rfl, ha, hd, hsc, _⟩ := first_part rest hne
        have hxi := hsc.i32
        have hal : 0 < a.length := List.length_pos_iff.2 ha
        rw [List.length_append] at hg2
        obtain ⟨gk, rfl⟩ : ∃ m, gk = m + 1 := ⟨gk - 1, by omega⟩
        have HA := Lib.hid ha
        have HD2 := Lib.hid hd
        have hpl : p.length ≤ 1000000 := by
          have : sp.length = p.length + (a.length + rest.length) := by rw [HT.out]; simp
          omega
        have hny : ∀ ty, (Instr.next (.pointer (some ⟨w.heap.size, 0, none⟩)) true ty).run Tryz.prog wr = .ok (.tuple #[.bool true, .int .i64 p.length, .int .i32 x]) (wr.iterAt w.heap.size (txt sp) (p ++ a).length) := fun ty => by
          have := next_part wr w.heap.size p a rest x (HT.out ▸ hi) ha hd ty
          rw [← HT.out] at this
          exact this
        have hi2 := iterAt_heap wr w.heap.size (txt sp) _ (p ++ a).length hi
        have hb3 := below_iterAt hb (Nat.le_refl _) (txt sp) (p ++ a).length
        generalize wr.iterAt w.heap.size (txt sp) (p ++ a).length = wj at *
        clear hi hb ha hd hne
        have HO2 : Hid (R = (x == r || hasR rest r)) := by show _ = _; rw [HO.out, hasR_cons a rest x _ HA.out HD2.out]
        have hzr := HZ.out
        obtain ⟨xz, hxz⟩ : ∃ xz : Int, (x : Int) = xz := ⟨_, rfl⟩
        rw [hxz] at hny hxi
        by_cases hvr : x = r
        · have HF : Hid (R = true) := by show _ = _; rw [HO2.out, hvr]; simp
          obtain rfl : xz = _ := hxz.symm.trans ((by rw [hvr] : (x : Int) = (r : Int)).trans hzr.symm)
          clear HO HO2 hvr hzr hxz
          go_wp2
          go_ret
          exact ⟨p.length, rfl, hb3, by omega, by omega, by rw [HF.out]; simp⟩
        · have HF : Hid (R = hasR rest r) := by show _ = _; rw [HO2.out, beq_eq_false_iff_ne.2 hvr]; rfl
          have hxx : ¬ xz = _ := fun e => hvr (by have := hxz.trans (e.trans hzr); omega)
          clear HO HO2 hvr hzr hxz
          go_wp2
          go_roundg gk
          case rel => exact ⟨p ++ a, rest, rfl, by show _ = _; rw [List.append_assoc]; exact HT.out, hi2, by omega, HF.out, hb3⟩
          case measure => omega
theorem crune_any (sp : List UInt8) (r : Nat) (w : World) (hr : Sc r) (hl : sp.length ≤ 1000000) :
    Calls Tryz.prog 136 #[.string (txt sp), .int .i32 r] w fun e w' => e = .returned (.bool (hasR sp r)) ∧ Below w.heap.size w w' := by
  have C := Lib.hid (irune_int sp r r w rfl hr hl)
  obtain ⟨R, hR⟩ : ∃ R, hasR sp r = R := ⟨_, rfl⟩
  rw [hR] at C ⊢
  clear hR
  clear hr hl
  go_enter Tryz.func136, Tryz.ntmps136
  go_wp2_with fail
  refine C.out.mono ?_
  rintro e w1 ⟨z, rfl, hb, h1, h2, h3⟩
  have HB := Lib.hid hb
  have hd : decide (0 ≤ z) = R := by
    cases R
    · exact decide_eq_false (fun h => by have := h3.1 h; cases this)
    · exact decide_eq_true (h3.2 rfl)
  have HD := Lib.hid hd
  clear hd h3 hb
  go_wp2
  go_ret
  exact ⟨ret_bool HD.out, HB.out⟩
theorem crune_eof (sp : ByteArray) (w : World) :
    Calls Tryz.prog 136 #[.string sp, .int .i32 (-1)] w fun e w' => e = .returned (.bool false) ∧ w' = w := by
  have C : Hid (Calls Tryz.prog 145 #[.string sp, .int .i32 (-1)] w fun e w' => e = .returned (.int .i64 (-1)) ∧ w' = w) := by
    show Calls _ _ _ _ _
    go_enter Tryz.func145, Tryz.ntmps145
    go_wp2
    go_ret
    exact ⟨rfl, rfl⟩
  go_enter Tryz.func136, Tryz.ntmps136
  go_wp2_with fail
  refine C.out.mono ?_
  rintro e w1 ⟨rfl, hw⟩
  obtain rfl := hw.symm
  go_wp2
  go_ret
  exact ⟨rfl, rfl⟩
end Go.Proofs.YtdfhidnhkeapbaaGreatDoor
