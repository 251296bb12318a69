/- Contracts of the functions on which the laws on texts stand: valid, runes, text, Len, RuneWidth, Width. -/
import Derived.Test.YtodablchamiaeaaDoorShelf
import Derived.Test.YtodablchamiaeaaDoorU8
import Derived.WalkKit
import Derived.WalkSmall
import Derived.Lib.OthersKept
import Derived.Lib.Hide
import Derived.Laws.OwnMore
import Derived.OwnWalk
import Derived.Laws.Cover4
import Derived.Deep.LoopGhost
namespace Go.Proofs.YtodablchamiaeaaDoor
open Go.RowKit Go.Lib U8

/-- The two tables of the decoder lie as their initialisers lay them. -/
abbrev Tabs (w : World) : Prop := Utf8Tabs 0 1 w
theorem Tabs.below {w w' : World} (h : Tabs w) (hb : Below w.heap.size w w') : Tabs w' := Utf8Tabs_below h hb

/-- UTF-8, and not longer than the statements look at. -/
def okB (s : ByteArray) : Bool := decide (s.size ≤ 4096) && validD s.data.toList

set_option maxHeartbeats 400000 in
theorem valid_any (s : ByteArray) (w : World) (hs : s.size ≤ 2147483647) (hT : Tabs w) :
    Calls Tryd.prog 17 #[.string s] w fun e w' => e = .returned (.bool (okB s)) ∧ Below w.heap.size w w' := by
  by_cases h : s.size ≤ 4096
  · have h4 : ¬ ((4096 : Int) < s.size) := by omega
    go_enter Tryd.func17, Tryd.ntmps17
    go_wp2_with (first
      | (go_at_call 49; refine (Tryd.utf8_ValidString s _ (by omega) hT).mono ?_; rintro e w' ⟨rfl, hb'⟩)
      | go_in)
    go_ret
    exact ⟨by simp [okB, h], hb'⟩
  · have h4 : ((4096 : Int) < s.size) := by omega
    go_enter Tryd.func17, Tryd.ntmps17
    go_wp2
    go_ret
    exact ⟨by simp [okB, h], Below.refl _ _⟩

/-- A text is no such, or the code of characters. -/
theorem ok_cases (s : ByteArray) : okB s = false ∨ ∃ rs, Scs rs ∧ s = txt (enc rs) ∧ (enc rs).length ≤ 4096 ∧ okB s = true := by
  cases h : okB s with
  | false => exact .inl rfl
  | true =>
    have h1 : s.size ≤ 4096 ∧ validD s.data.toList = true := by simpa [okB] using h
    obtain ⟨rs, hs, e⟩ := text_chars h1.2
    exact .inr ⟨rs, hs, e, by have := h1.1; rw [e, txt_size] at this; exact this, rfl⟩
theorem valid_no (s : ByteArray) (w : World) (hs : s.size ≤ 2147483647) (h : okB s = false) (hT : Tabs w) :
    Calls Tryd.prog 17 #[.string s] w fun e w' => e = .returned (.bool false) ∧ Below w.heap.size w w' := h ▸ valid_any s w hs hT
theorem valid_yes (rs : List Nat) (w : World) (hs : (enc rs).length ≤ 4096) (h : okB (txt (enc rs)) = true) (hT : Tabs w) :
    Calls Tryd.prog 17 #[.string (txt (enc rs))] w fun e w' => e = .returned (.bool true) ∧ Below w.heap.size w w' := h ▸ valid_any (txt (enc rs)) w (by rw [txt_size]; omega) hT

theorem ret_int {k : IntKind} {a b : Int} (h : a = b) : Ending.returned (.int k a) = .returned (.int k b) := by rw [h]
theorem ret_bool {a b : Bool} (h : a = b) : Ending.returned (.bool a) = .returned (.bool b) := by rw [h]
theorem ret_str {a b : ByteArray} (h : a = b) : Ending.returned (.string a) = .returned (.string b) := by rw [h]

/-- How wide a character is. -/
def wid (r : Int) : Int := if r = 65533 ∨ r < 32 then 0 else if r < 8192 then 1 else if r < 65377 then 2 else if r < 65440 then 1 else 2
theorem wid_bd (r : Int) : 0 ≤ wid r ∧ wid r ≤ 2 := by
  unfold wid
  repeat' split
  all_goals omega

set_option maxHeartbeats 400000 in
theorem runeWidth_any (r : Int) (w : World) (h0 : -2147483648 ≤ r) (h1 : r ≤ 2147483647) :
    Calls Tryd.prog 54 #[.int .i32 r] w fun e w' => e = .returned (.int .i64 (wid r)) ∧ w' = w := by
  go_enter Tryd.func54, Tryd.ntmps54
  go_wp2
  all_goals
    go_ret
    refine ⟨ret_int ?_, rfl⟩
    unfold wid
    repeat' split
    all_goals first | rfl | (exfalso; simp_all; done) | (exfalso; simp_all; omega) | (exfalso; omega)

theorem implRuneWidth_any (r : Int) (w : World) (h0 : -2147483648 ≤ r) (h1 : r ≤ 2147483647) :
    Calls Tryd.prog 25 #[.int .i32 r] w fun e w' => e = .returned (.int .i64 (wid r)) ∧ w' = w := by
  go_enter Tryd.func25, Tryd.ntmps25
  go_wp2_with (go_at_call 54; refine (runeWidth_any r _ h0 h1).mono ?_; rintro e w' ⟨rfl, rfl⟩)
  go_ret
  exact ⟨rfl, rfl⟩

/-- The width of characters. -/
def widAll (rs : List Nat) : Int := (rs.map fun (r : Nat) => wid (r : Int)).sum
theorem widAll_cons (r : Nat) (rs : List Nat) : widAll (r :: rs) = wid r + widAll rs := by simp [widAll]
theorem widAll_snoc (rs : List Nat) (r : Nat) : widAll (rs ++ [r]) = widAll rs + wid r := by simp [widAll]
theorem widAll_bd : ∀ rs : List Nat, 0 ≤ widAll rs ∧ widAll rs ≤ 2 * (rs.length : Int)
  | [] => by simp [widAll]
  | r :: rs => by
    have := widAll_bd rs
    have := wid_bd r
    rw [widAll_cons, List.length_cons]
    omega

theorem U8.Sc.i32 {r : Nat} (h : Sc r) : -2147483648 ≤ (r : Int) ∧ (r : Int) ≤ 2147483647 := by unfold Sc at h; omega

/-- What the decoder tells of a text that begins with a character. -/
theorem decodeGo_enc (r : Nat) (rs : List Nat) (h : Sc r) : decodeGo (txt (enc (r :: rs))) = (r, (enc1 r).length) := by
  have hp := enc1_pos r
  unfold decodeGo
  rw [if_neg (by rw [txt_size, enc_cons, List.length_append]; omega)]
  exact decode_enc r rs h
theorem enc_size_pos (r : Nat) (rs : List Nat) : 0 < (txt (enc (r :: rs))).size := by
  have hp := enc1_pos r
  rw [txt_size, enc_cons, List.length_append]; omega
theorem rest_enc (r : Nat) (rs : List Nat) : (txt (enc (r :: rs))).extract (enc1 r).length (txt (enc (r :: rs))).size = txt (enc rs) := txt_skip (enc1 r) (enc rs)
theorem head_enc (r : Nat) (rs : List Nat) : (txt (enc (r :: rs))).extract 0 (enc1 r).length = txt (enc1 r) := txt_take (enc1 r) (enc rs)
theorem enc1_size_le (r : Nat) (rs : List Nat) : (enc1 r).length ≤ (txt (enc (r :: rs))).size := by rw [txt_size, enc_cons, List.length_append]; omega

theorem dec_any (r : Nat) (rs : List Nat) (w : World) (h : Sc r) (hT : Tabs w) :
    Calls Tryd.prog 52 #[.string (txt (enc (r :: rs)))] w fun e w' => e = .returned (.tuple #[.int .i32 r, .int .i64 (enc1 r).length]) ∧ Below w.heap.size w w' := by
  have := Tryd.utf8_DecodeRuneInString (txt (enc (r :: rs))) w hT
  rw [decodeGo_enc r rs h] at this
  exact this

set_option maxHeartbeats 400000 in
/-- THE WIDTH OF A TEXT. -/
theorem width_any (rs : List Nat) (w : World) (hs : Scs rs) (hl : rs.length ≤ 1000000) (hT : Tabs w) :
    Calls Tryd.prog 53 #[.string (txt (enc rs))] w fun e w' => e = .returned (.int .i64 (widAll rs)) ∧ Below w.heap.size w w' := by
  go_enter Tryd.func53, Tryd.ntmps53
  go_wp2
  go_loopg [0, 5] (rs.length + 1) (fun gk s n wr => ∃ done rest, rs = done ++ rest ∧ s = .string (txt (enc rest)) ∧ n = .int .i64 (widAll done) ∧ rest.length < gk ∧ Below w.heap.size w wr)
  case atStart => exact ⟨[], rs, rfl, rfl, by simp [widAll], by omega, Below.refl _ _⟩
  case round =>
    obtain ⟨done, rest, rfl, rfl, rfl, hg, hb⟩ := hrel
    have hTr := hT.below hb
    rw [List.length_append] at hl
    have hbd := widAll_bd done
    cases rest with
    | nil =>
      have h0 : (txt (enc [])).size ≤ 0 := Nat.le_refl _
      go_wp2
      go_ret
      exact ⟨by rw [List.append_nil]; rfl, hb⟩
    | cons r rest =>
      have hr := hs.right.head
      have hri := hr.i32
      have hp := enc_size_pos r rest
      have hle := enc1_size_le r rest
      have hwb := wid_bd r
      rw [List.length_cons] at hl hg
      obtain ⟨gk, rfl⟩ : ∃ m, gk = m + 1 := ⟨gk - 1, by omega⟩
      go_wp2_with (first
        | (go_at_call 52; refine (dec_any r rest _ hr hTr).mono ?_; rintro e w1 ⟨rfl, hb1⟩)
        | (go_at_call 54; refine (runeWidth_any _ _ hri.1 hri.2).mono ?_; rintro e w2 ⟨rfl, rfl⟩))
      go_roundg gk
      case rel => exact ⟨done ++ [r], rest, by simp, by rw [rest_enc], by rw [widAll_snoc], by omega, hb.trans (hb1.mono hb.size)⟩
      case measure => omega

end Go.Proofs.YtodablchamiaeaaDoor
