/- The laws FnIgnoreRoads and FnDelimiter: their walks, and the contracts of the functions of strcase that stand on ToScreamingDelimited. -/
import Derived.Test.YthanbbflemkomaaDoorDelim
import Derived.Test.YthanbbflemkomaaDoorCHelp
namespace Go.Proofs.YthanbbflemkomaaDoor
open Go.RowKit U8
open Go.Lib hiding intOf

theorem scrDel_any (l : List UInt8) (d : UInt8) (ig : List UInt8) (scr : Bool) (w : World) (hl : l.length ≤ 1000000) (ha : ∀ b ∈ l, b.toNat < 128) (hS : Spc w) :
    Calls Tryd.prog 15 #[.string (txt l), .int .u8 d.toNat, .string (txt ig), .bool scr] w fun e w' => e = .returned (.string (txt (del d scr (igB ig) none (trimSpaceD l)))) ∧ Below w.heap.size w w' := by
  have c : ∀ W, Spc W → Calls Tryd.prog 40 #[.string (txt l), .int .u8 d.toNat, .string (txt ig), .bool scr] W fun e w' => e = .returned (.string (txt (del d scr (igB ig) none (trimSpaceD l)))) ∧ Below W.heap.size W w' := fun W h => delim_any l d ig scr W hl ha h
  have C := Lib.hid c
  clear c
  go_enter Tryd.func15, Tryd.ntmps15
  go_wp2_with (first
    | (go_at_call 40; refine (C.out _ hS).mono ?_; rintro e w1 ⟨rfl, hb1⟩)
    | go_in)
  go_ret
  exact ⟨rfl, hb1⟩

theorem toDel_any (l : List UInt8) (d : UInt8) (w : World) (hl : l.length ≤ 1000000) (ha : ∀ b ∈ l, b.toNat < 128) (hS : Spc w) :
    Calls Tryd.prog 14 #[.string (txt l), .int .u8 d.toNat] w fun e w' => e = .returned (.string (txt (del d false (igB []) none (trimSpaceD l)))) ∧ Below w.heap.size w w' := by
  have c : ∀ W, Spc W → Calls Tryd.prog 40 #[.string (txt l), .int .u8 d.toNat, .string (txt []), .bool false] W fun e w' => e = .returned (.string (txt (del d false (igB []) none (trimSpaceD l)))) ∧ Below W.heap.size W w' := fun W h => delim_any l d [] false W hl ha h
  have C := Lib.hid c
  clear c
  go_enter Tryd.func14, Tryd.ntmps14
  go_wp2_with (first
    | (go_at_call 40; refine (C.out _ hS).mono ?_; rintro e w1 ⟨rfl, hb1⟩)
    | go_in)
  go_ret
  exact ⟨rfl, hb1⟩

theorem snake_any (l : List UInt8) (w : World) (hl : l.length ≤ 1000000) (ha : ∀ b ∈ l, b.toNat < 128) (hS : Spc w) :
    Calls Tryd.prog 7 #[.string (txt l)] w fun e w' => e = .returned (.string (txt (del 95 false (igB []) none (trimSpaceD l)))) ∧ Below w.heap.size w w' := by
  have c : ∀ W, Spc W → Calls Tryd.prog 40 #[.string (txt l), .int .u8 95, .string (txt []), .bool false] W fun e w' => e = .returned (.string (txt (del 95 false (igB []) none (trimSpaceD l)))) ∧ Below W.heap.size W w' := fun W h => delim_any l 95 [] false W hl ha h
  have C := Lib.hid c
  clear c
  go_enter Tryd.func7, Tryd.ntmps7
  go_wp2_with (first
    | (go_at_call 40; refine (C.out _ hS).mono ?_; rintro e w1 ⟨rfl, hb1⟩)
    | go_in)
  go_ret
  exact ⟨rfl, hb1⟩

theorem scrSnake_any (l : List UInt8) (w : World) (hl : l.length ≤ 1000000) (ha : ∀ b ∈ l, b.toNat < 128) (hS : Spc w) :
    Calls Tryd.prog 11 #[.string (txt l)] w fun e w' => e = .returned (.string (txt (del 95 true (igB []) none (trimSpaceD l)))) ∧ Below w.heap.size w w' := by
  have c : ∀ W, Spc W → Calls Tryd.prog 40 #[.string (txt l), .int .u8 95, .string (txt []), .bool true] W fun e w' => e = .returned (.string (txt (del 95 true (igB []) none (trimSpaceD l)))) ∧ Below W.heap.size W w' := fun W h => delim_any l 95 [] true W hl ha h
  have C := Lib.hid c
  clear c
  go_enter Tryd.func11, Tryd.ntmps11
  go_wp2_with (first
    | (go_at_call 40; refine (C.out _ hS).mono ?_; rintro e w1 ⟨rfl, hb1⟩)
    | go_in)
  go_ret
  exact ⟨rfl, hb1⟩

theorem kebab_any (l : List UInt8) (w : World) (hl : l.length ≤ 1000000) (ha : ∀ b ∈ l, b.toNat < 128) (hS : Spc w) :
    Calls Tryd.prog 12 #[.string (txt l)] w fun e w' => e = .returned (.string (txt (del 45 false (igB []) none (trimSpaceD l)))) ∧ Below w.heap.size w w' := by
  have c : ∀ W, Spc W → Calls Tryd.prog 40 #[.string (txt l), .int .u8 45, .string (txt []), .bool false] W fun e w' => e = .returned (.string (txt (del 45 false (igB []) none (trimSpaceD l)))) ∧ Below W.heap.size W w' := fun W h => delim_any l 45 [] false W hl ha h
  have C := Lib.hid c
  clear c
  go_enter Tryd.func12, Tryd.ntmps12
  go_wp2_with (first
    | (go_at_call 40; refine (C.out _ hS).mono ?_; rintro e w1 ⟨rfl, hb1⟩)
    | go_in)
  go_ret
  exact ⟨rfl, hb1⟩

theorem scrKebab_any (l : List UInt8) (w : World) (hl : l.length ≤ 1000000) (ha : ∀ b ∈ l, b.toNat < 128) (hS : Spc w) :
    Calls Tryd.prog 13 #[.string (txt l)] w fun e w' => e = .returned (.string (txt (del 45 true (igB []) none (trimSpaceD l)))) ∧ Below w.heap.size w w' := by
  have c : ∀ W, Spc W → Calls Tryd.prog 40 #[.string (txt l), .int .u8 45, .string (txt []), .bool true] W fun e w' => e = .returned (.string (txt (del 45 true (igB []) none (trimSpaceD l)))) ∧ Below W.heap.size W w' := fun W h => delim_any l 45 [] true W hl ha h
  have C := Lib.hid c
  clear c
  go_enter Tryd.func13, Tryd.ntmps13
  go_wp2_with (first
    | (go_at_call 40; refine (C.out _ hS).mono ?_; rintro e w1 ⟨rfl, hb1⟩)
    | go_in)
  go_ret
  exact ⟨rfl, hb1⟩


/-- A text of ASCII, as bytes. -/
theorem pl_bytes (s : ByteArray) : plB s = false ∨ ∃ l : List UInt8, s = txt l ∧ (∀ b ∈ l, b.toNat < 128) ∧ l.length ≤ 4096 ∧ plB s = true := by
  cases h : plB s with
  | false => exact .inl rfl
  | true =>
    refine .inr ⟨s.data.toList, (list_txt s).symm, ?_, ?_, rfl⟩
    · unfold plB at h
      simp only [Bool.and_eq_true, List.all_eq_true, decide_eq_true_eq] at h
      exact h.1
    · unfold plB at h
      simp only [Bool.and_eq_true, decide_eq_true_eq] at h
      rw [← size_list]; exact h.2
theorem del_ex (w : World) (hS : Spc w) :
    Calls Tryd.prog 14 #[.string ⟨#[97, 66]⟩, .int .u8 46] w fun e w' => e = .returned (.string ⟨#[97, 46, 98]⟩) ∧ Below w.heap.size w w' := by
  have h := toDel_any [97, 66] 46 w (by decide) (by decide) hS
  rw [show del 46 false (igB []) none (trimSpaceD [97, 66]) = [97, 46, 98] by decide +kernel] at h
  exact h

end Go.Proofs.YthanbbflemkomaaDoor
