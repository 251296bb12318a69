/- isSpace, isExcluded: their walks. -/
import Derived.Test.YthekblmkcfkboaaDoorWWorld
namespace Go.Proofs.YthekblmkcfkboaaDoor
open Go.RowKit U8
open Go.Lib hiding intOf

set_option maxHeartbeats 800000 in
theorem space_any (r : Nat) (w : World) : Calls Tryd.prog 32 #[.int .i32 r] w fun e w' => e = .returned (.bool (isSp r)) ∧ w' = w := by
  by_cases h1 : r = 32
  · subst h1
    go_enter Tryd.func32, Tryd.ntmps32
    go_wp2
    go_ret
    exact ⟨rfl, rfl⟩
  by_cases h2 : r = 9
  · subst h2
    go_enter Tryd.func32, Tryd.ntmps32
    go_wp2
    go_ret
    exact ⟨rfl, rfl⟩
  by_cases h3 : r = 13
  · subst h3
    go_enter Tryd.func32, Tryd.ntmps32
    go_wp2
    go_ret
    exact ⟨rfl, rfl⟩
  by_cases h4 : r = 10
  · subst h4
    go_enter Tryd.func32, Tryd.ntmps32
    go_wp2
    go_ret
    exact ⟨rfl, rfl⟩
  have e1 : ((r : Int) == 32) = false := by simp; omega
  have e2 : ((r : Int) == 9) = false := by simp; omega
  have e3 : ((r : Int) == 13) = false := by simp; omega
  have e4 : ((r : Int) == 10) = false := by simp; omega
  have HI : Hid (isSp r = false) := by show _ = _; unfold isSp; simp [h1, h2, h3, h4]
  rw [HI.out]
  clear h1 h2 h3 h4 HI
  go_enter Tryd.func32, Tryd.ntmps32
  go_wp2
  go_ret
  exact ⟨rfl, rfl⟩

/-- The separators that are to be ignored, at a Parser. -/
def Ex (pp : Nat) (ex : List Nat) (w : World) : Prop := ∃ ao cap, w.cell? ⟨pp, 3, none⟩ = some (.slice ao ex.length cap) ∧ ∀ j x, ex[j]? = some x → ∃ g, ao = some ⟨g, 0, none⟩ ∧ w.cell? ⟨g, j, none⟩ = some (.int .i32 ((x : Nat) : Int))
set_option maxHeartbeats 1600000 in
theorem excl_any (pp : Nat) (ex : List Nat) (r : Nat) (w : World) (hl : ex.length ≤ 9223372036854775807) (hE : Ex pp ex w) : Calls Tryd.prog 31 #[.pointer (some ⟨pp, 0, none⟩), .int .i32 r] w fun e w' => e = .returned (.bool (ex.any (· == r))) ∧ w' = w := by
  obtain ⟨ao, cap, c3, hx⟩ := hE
  have HX := Lib.hid hx
  obtain ⟨R, hR⟩ : ∃ R, ex.any (· == r) = R := ⟨_, rfl⟩
  rw [hR]
  have HR0 := Lib.hid hR.symm
  clear hx hR
  go_enter Tryd.func31, Tryd.ntmps31
  go_wp2
  go_loopg [12] (ex.length + 1) (fun gk i wr => ∃ k : Nat, i = .int .i64 k ∧ k ≤ ex.length ∧ ex.length - k < gk ∧ Hid (R = (ex.drop k).any (· == r)) ∧ wr = w)
  case atStart => exact ⟨0, rfl, by omega, by omega, HR0.out, rfl⟩
  case round =>
    obtain ⟨k, rfl, hk, hg, HR, hwr⟩ := hrel
    obtain rfl := hwr.symm
    clear HR0
    obtain ⟨gk, rfl⟩ : ∃ m, gk = m + 1 := ⟨gk - 1, by omega⟩
    by_cases hlt : k < ex.length
    · have hx := List.getElem?_eq_getElem hlt
      have hd := List.drop_eq_getElem_cons hlt
      generalize ex[k] = x at hx hd
      obtain ⟨g, rfl, cx⟩ := HX.out k x hx
      have HR1 := HR.out
      rw [hd, List.any_cons] at HR1
      clear hx hd HR
      by_cases hxc : x = r
      · subst hxc
        have HR2 : Hid (R = true) := by show _ = _; rw [HR1]; simp
        clear HR1
        have he : ((x : Int) == (x : Int)) = true := by simp
        go_wp2
        go_ret
        exact ⟨by rw [HR2.out]; rfl, rfl⟩
      · have HR2 : Hid (R = (ex.drop (k + 1)).any (· == r)) := by show _ = _; rw [HR1, beq_eq_false_iff_ne.2 hxc, Bool.false_or]
        have he : ((x : Int) == (r : Int)) = false := by simp; omega
        clear HR1
        go_wp2
        go_roundg gk
        case rel => exact ⟨k + 1, by go_num, by omega, by omega, HR2.out, rfl⟩
        case measure => omega
    · have HR2 : Hid (R = false) := by
        show _ = _
        rw [HR.out, List.drop_eq_nil_of_le (by omega)]; rfl
      clear HR
      go_wp2
      go_ret
      exact ⟨by rw [HR2.out]; rfl, rfl⟩

end Go.Proofs.YthekblmkcfkboaaDoor
