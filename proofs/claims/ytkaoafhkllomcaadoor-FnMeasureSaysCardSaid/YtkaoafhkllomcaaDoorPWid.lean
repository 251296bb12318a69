/- The width of runes and of texts at the seat of patterns. -/
import Derived.Test.YtkaoafhkllomcaaDoorPBase
namespace Go.Proofs.YtkaoafhkllomcaaDoor
open Go.RowKit U8
open Go.Lib hiding intOf

/-- How wide a character is. -/
def wid (r : Int) : Int := if r = 65533 ∨ r < 32 then 0 else if r < 8192 then 1 else if r < 65377 then 2 else if r < 65440 then 1 else 2
theorem wid_bd (r : Int) : 0 ≤ wid r ∧ wid r ≤ 2 := by
  unfold wid
  repeat' split
  all_goals omega
set_option maxHeartbeats 400000 in
theorem runeWidth_any (r : Int) (w : World) (h0 : -2147483648 ≤ r) (h1 : r ≤ 2147483647) :
    Calls Tryd.prog 78 #[.int .i32 r] w fun e w' => e = .returned (.int .i64 (wid r)) ∧ w' = w := by
  go_enter Tryd.func78, Tryd.ntmps78
  go_wp2
  all_goals
    go_ret
    refine ⟨ret_int ?_, rfl⟩
    unfold wid
    repeat' split
    all_goals first | rfl | (exfalso; simp_all; done) | (exfalso; simp_all; omega) | (exfalso; omega)
/-- The width of characters. -/
def widAll (rs : List Nat) : Int := (rs.map fun (r : Nat) => wid (r : Int)).sum
theorem widAll_cons (r : Nat) (rs : List Nat) : widAll (r :: rs) = wid r + widAll rs := by simp [widAll]
theorem widAll_snoc (rs : List Nat) (r : Nat) : widAll (rs ++ [r]) = widAll rs + wid r := by simp [widAll]
theorem widAll_bd : ∀ rs : List Nat, 0 ≤ widAll rs ∧ widAll rs ≤ 2 * (rs.length : Int)
  | [] => by simp [widAll]
  | r :: rs => by
    have := widAll_bd rs
    have := wid_bd r
    rw [widAll_cons, List.length_cons]
    omega
set_option maxHeartbeats 400000 in
/-- THE WIDTH OF A TEXT. -/
theorem width_any (rs : List Nat) (w : World) (hs : Scs rs) (hl : rs.length ≤ 1000000) (hT : Tabs w) :
    Calls Tryd.prog 48 #[.string (txt (enc rs))] w fun e w' => e = .returned (.int .i64 (widAll rs)) ∧ Below w.heap.size w w' := by
  go_enter Tryd.func48, Tryd.ntmps48
  go_wp2
  go_loopg [0, 5] (rs.length + 1) (fun gk s n wr => ∃ done rest, rs = done ++ rest ∧ s = .string (txt (enc rest)) ∧ n = .int .i64 (widAll done) ∧ rest.length < gk ∧ Below w.heap.size w wr)
  case atStart => exact ⟨[], rs, rfl, rfl, by simp [widAll], by omega, Below.refl _ _⟩
  case round =>
    obtain ⟨done, rest, rfl, rfl, rfl, hg, hb⟩ := hrel
    have hTr := hT.below hb
    rw [List.length_append] at hl
    have hbd := widAll_bd done
    cases rest with
    | nil =>
      have h0 : (txt (enc [])).size ≤ 0 := Nat.le_refl _
      go_wp2
      go_ret
      exact ⟨by rw [List.append_nil]; rfl, hb⟩
    | cons r rest =>
      have hr := hs.right.head
      have hri := hr.i32
      have hp := enc_size_pos r rest
      have hle := enc1_size_le r rest
      have hwb := wid_bd r
      rw [List.length_cons] at hl hg
      obtain ⟨gk, rfl⟩ : ∃ m, gk = m + 1 := ⟨gk - 1, by omega⟩
      go_wp2_with (first
        | (go_at_call 56; refine (dec_any r rest _ hr hTr).mono ?_; rintro e w1 ⟨rfl, hb1⟩)
        | (go_at_call 78; refine (runeWidth_any _ _ hri.1 hri.2).mono ?_; rintro e w2 ⟨rfl, rfl⟩))
      go_roundg gk
      case rel => exact ⟨done ++ [r], rest, by simp, by rw [rest_enc], by rw [widAll_snoc], by omega, hb.trans (hb1.mono hb.size)⟩
      case measure => omega

end Go.Proofs.YtkaoafhkllomcaaDoor
