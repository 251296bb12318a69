/- The laws FnIgnoreRoads and FnDelimiter: their walks, and the contracts of the functions of strcase that stand on ToScreamingDelimited. -/
import Derived.Test.YtplillcmgahapaaDoorDelim
import Derived.Test.YtplillcmgahapaaDoorCHelp
namespace Go.Proofs.YtplillcmgahapaaDoor
open Go.RowKit U8
open Go.Lib hiding intOf

theorem snakeIg_any (l : List UInt8) (ig : List UInt8) (w : World) (hl : l.length ≤ 1000000) (ha : ∀ b ∈ l, b.toNat < 128) (hS : Spc w) :
    Calls Tryd.prog 21 #[.string (txt l), .string (txt ig)] w fun e w' => e = .returned (.string (txt (del 95 false (igB ig) none (trimSpaceD l)))) ∧ Below w.heap.size w w' := by
  have c : ∀ W, Spc W → Calls Tryd.prog 50 #[.string (txt l), .int .u8 95, .string (txt ig), .bool false] W fun e w' => e = .returned (.string (txt (del 95 false (igB ig) none (trimSpaceD l)))) ∧ Below W.heap.size W w' := fun W h => delim_any l 95 ig false W hl ha h
  have C := Lib.hid c
  clear c
  go_enter Tryd.func21, Tryd.ntmps21
  go_wp2_with (first
    | (go_at_call 50; refine (C.out _ hS).mono ?_; rintro e w1 ⟨rfl, hb1⟩)
    | go_in)
  go_ret
  exact ⟨rfl, hb1⟩

theorem scrDel_any (l : List UInt8) (d : UInt8) (ig : List UInt8) (scr : Bool) (w : World) (hl : l.length ≤ 1000000) (ha : ∀ b ∈ l, b.toNat < 128) (hS : Spc w) :
    Calls Tryd.prog 23 #[.string (txt l), .int .u8 d.toNat, .string (txt ig), .bool scr] w fun e w' => e = .returned (.string (txt (del d scr (igB ig) none (trimSpaceD l)))) ∧ Below w.heap.size w w' := by
  have c : ∀ W, Spc W → Calls Tryd.prog 50 #[.string (txt l), .int .u8 d.toNat, .string (txt ig), .bool scr] W fun e w' => e = .returned (.string (txt (del d scr (igB ig) none (trimSpaceD l)))) ∧ Below W.heap.size W w' := fun W h => delim_any l d ig scr W hl ha h
  have C := Lib.hid c
  clear c
  go_enter Tryd.func23, Tryd.ntmps23
  go_wp2_with (first
    | (go_at_call 50; refine (C.out _ hS).mono ?_; rintro e w1 ⟨rfl, hb1⟩)
    | go_in)
  go_ret
  exact ⟨rfl, hb1⟩

theorem toDel_any (l : List UInt8) (d : UInt8) (w : World) (hl : l.length ≤ 1000000) (ha : ∀ b ∈ l, b.toNat < 128) (hS : Spc w) :
    Calls Tryd.prog 24 #[.string (txt l), .int .u8 d.toNat] w fun e w' => e = .returned (.string (txt (del d false (igB []) none (trimSpaceD l)))) ∧ Below w.heap.size w w' := by
  have c : ∀ W, Spc W → Calls Tryd.prog 50 #[.string (txt l), .int .u8 d.toNat, .string (txt []), .bool false] W fun e w' => e = .returned (.string (txt (del d false (igB []) none (trimSpaceD l)))) ∧ Below W.heap.size W w' := fun W h => delim_any l d [] false W hl ha h
  have C := Lib.hid c
  clear c
  go_enter Tryd.func24, Tryd.ntmps24
  go_wp2_with (first
    | (go_at_call 50; refine (C.out _ hS).mono ?_; rintro e w1 ⟨rfl, hb1⟩)
    | go_in)
  go_ret
  exact ⟨rfl, hb1⟩

theorem snake_any (l : List UInt8) (w : World) (hl : l.length ≤ 1000000) (ha : ∀ b ∈ l, b.toNat < 128) (hS : Spc w) :
    Calls Tryd.prog 25 #[.string (txt l)] w fun e w' => e = .returned (.string (txt (del 95 false (igB []) none (trimSpaceD l)))) ∧ Below w.heap.size w w' := by
  have c : ∀ W, Spc W → Calls Tryd.prog 50 #[.string (txt l), .int .u8 95, .string (txt []), .bool false] W fun e w' => e = .returned (.string (txt (del 95 false (igB []) none (trimSpaceD l)))) ∧ Below W.heap.size W w' := fun W h => delim_any l 95 [] false W hl ha h
  have C := Lib.hid c
  clear c
  go_enter Tryd.func25, Tryd.ntmps25
  go_wp2_with (first
    | (go_at_call 50; refine (C.out _ hS).mono ?_; rintro e w1 ⟨rfl, hb1⟩)
    | go_in)
  go_ret
  exact ⟨rfl, hb1⟩

theorem scrSnake_any (l : List UInt8) (w : World) (hl : l.length ≤ 1000000) (ha : ∀ b ∈ l, b.toNat < 128) (hS : Spc w) :
    Calls Tryd.prog 30 #[.string (txt l)] w fun e w' => e = .returned (.string (txt (del 95 true (igB []) none (trimSpaceD l)))) ∧ Below w.heap.size w w' := by
  have c : ∀ W, Spc W → Calls Tryd.prog 50 #[.string (txt l), .int .u8 95, .string (txt []), .bool true] W fun e w' => e = .returned (.string (txt (del 95 true (igB []) none (trimSpaceD l)))) ∧ Below W.heap.size W w' := fun W h => delim_any l 95 [] true W hl ha h
  have C := Lib.hid c
  clear c
  go_enter Tryd.func30, Tryd.ntmps30
  go_wp2_with (first
    | (go_at_call 50; refine (C.out _ hS).mono ?_; rintro e w1 ⟨rfl, hb1⟩)
    | go_in)
  go_ret
  exact ⟨rfl, hb1⟩

theorem kebab_any (l : List UInt8) (w : World) (hl : l.length ≤ 1000000) (ha : ∀ b ∈ l, b.toNat < 128) (hS : Spc w) :
    Calls Tryd.prog 31 #[.string (txt l)] w fun e w' => e = .returned (.string (txt (del 45 false (igB []) none (trimSpaceD l)))) ∧ Below w.heap.size w w' := by
  have c : ∀ W, Spc W → Calls Tryd.prog 50 #[.string (txt l), .int .u8 45, .string (txt []), .bool false] W fun e w' => e = .returned (.string (txt (del 45 false (igB []) none (trimSpaceD l)))) ∧ Below W.heap.size W w' := fun W h => delim_any l 45 [] false W hl ha h
  have C := Lib.hid c
  clear c
  go_enter Tryd.func31, Tryd.ntmps31
  go_wp2_with (first
    | (go_at_call 50; refine (C.out _ hS).mono ?_; rintro e w1 ⟨rfl, hb1⟩)
    | go_in)
  go_ret
  exact ⟨rfl, hb1⟩

theorem scrKebab_any (l : List UInt8) (w : World) (hl : l.length ≤ 1000000) (ha : ∀ b ∈ l, b.toNat < 128) (hS : Spc w) :
    Calls Tryd.prog 32 #[.string (txt l)] w fun e w' => e = .returned (.string (txt (del 45 true (igB []) none (trimSpaceD l)))) ∧ Below w.heap.size w w' := by
  have c : ∀ W, Spc W → Calls Tryd.prog 50 #[.string (txt l), .int .u8 45, .string (txt []), .bool true] W fun e w' => e = .returned (.string (txt (del 45 true (igB []) none (trimSpaceD l)))) ∧ Below W.heap.size W w' := fun W h => delim_any l 45 [] true W hl ha h
  have C := Lib.hid c
  clear c
  go_enter Tryd.func32, Tryd.ntmps32
  go_wp2_with (first
    | (go_at_call 50; refine (C.out _ hS).mono ?_; rintro e w1 ⟨rfl, hb1⟩)
    | go_in)
  go_ret
  exact ⟨rfl, hb1⟩


/-- A text of ASCII, as bytes. -/
theorem pl_bytes (s : ByteArray) : plB s = false ∨ ∃ l : List UInt8, s = txt l ∧ (∀ b ∈ l, b.toNat < 128) ∧ l.length ≤ 4096 ∧ plB s = true := by
  cases h : plB s with
  | false => exact .inl rfl
  | true =>
    refine .inr ⟨s.data.toList, (list_txt s).symm, ?_, ?_, rfl⟩
    · unfold plB at h
      simp only [Bool.and_eq_true, List.all_eq_true, decide_eq_true_eq] at h
      exact h.1
    · unfold plB at h
      simp only [Bool.and_eq_true, decide_eq_true_eq] at h
      rw [← size_list]; exact h.2
theorem plain_is (s : ByteArray) (b : Bool) (w : World) (hs : s.size ≤ 2147483647) (h : plB s = b) :
    Calls Tryd.prog 22 #[.string s] w fun e w' => e = .returned (.bool b) ∧ Below w.heap.size w w' := h ▸ plain_any s w hs

theorem ig_ex (w : World) (hS : Spc w) :
    Calls Tryd.prog 21 #[.string ⟨#[97, 46, 98, 45, 99]⟩, .string ⟨#[46]⟩] w fun e w' => e = .returned (.string ⟨#[97, 46, 98, 95, 99]⟩) ∧ Below w.heap.size w w' := by
  have h := snakeIg_any [97, 46, 98, 45, 99] [46] w (by decide) (by decide) hS
  rw [show del 95 false (igB [46]) none (trimSpaceD [97, 46, 98, 45, 99]) = [97, 46, 98, 95, 99] by decide +kernel] at h
  exact h
theorem del_ex (w : World) (hS : Spc w) :
    Calls Tryd.prog 24 #[.string ⟨#[97, 66]⟩, .int .u8 46] w fun e w' => e = .returned (.string ⟨#[97, 46, 98]⟩) ∧ Below w.heap.size w w' := by
  have h := toDel_any [97, 66] 46 w (by decide) (by decide) hS
  rw [show del 46 false (igB []) none (trimSpaceD [97, 66]) = [97, 46, 98] by decide +kernel] at h
  exact h

set_option maxHeartbeats 1600000 in
set_option maxRecDepth 100000 in
theorem law_ignoreRoads (s ig : ByteArray) (w : World) (hsz : s.size ≤ 140737488351232) (hiz : ig.size ≤ 140737488351232) (hS : Spc w) :
    Calls Tryd.prog 6 #[.string s, .string ig] w fun e w' => e = .returned (.bool true) ∧ Below w.heap.size w w' := by
  by_cases hbig : 2147483647 < s.size
  · go_enter Tryd.func6, Tryd.ntmps6
    go_wp2
    go_ret
    exact ⟨rfl, Below.refl _ _⟩
  by_cases hbig2 : 2147483647 < ig.size
  · go_enter Tryd.func6, Tryd.ntmps6
    go_wp2
    go_ret
    exact ⟨rfl, Below.refl _ _⟩
  have hle : s.size ≤ 2147483647 := by omega
  have hle2 : ig.size ≤ 2147483647 := by omega
  clear hbig hbig2 hsz hiz
  rcases pl_bytes s with hpl | ⟨l, rfl, ha, hl4, hpl⟩
  · have cP := Lib.hid fun W => plain_is s false W hle hpl
    go_enter Tryd.func6, Tryd.ntmps6
    go_wp2_with (first
      | (go_at_call 21; refine (ig_ex _ hS).mono ?_; rintro e w1 ⟨rfl, hb1⟩)
      | (go_at_call 22; refine (cP.out _).mono ?_; rintro e w2 ⟨rfl, hb2⟩))
    go_ret
    exact ⟨rfl, chain hb1 hb2⟩
  have cP := Lib.hid fun W => plain_is (txt l) true W hle hpl
  cases hf : decide (1 + ig.size ≤ 400) with
  | false =>
    have cF := Lib.hid fun W => few1 ig false W hle2 hf
    go_enter Tryd.func6, Tryd.ntmps6
    go_wp2_with (first
      | (go_at_call 21; refine (ig_ex _ hS).mono ?_; rintro e w1 ⟨rfl, hb1⟩)
      | (go_at_call 22; refine (cP.out _).mono ?_; rintro e w2 ⟨rfl, hb2⟩)
      | (go_at_call 15; refine (cF.out _).mono ?_; rintro e w3 ⟨rfl, hb3⟩))
    go_ret
    exact ⟨rfl, chain (chain hb1 hb2) hb3⟩
  | true =>
    have cF := Lib.hid fun W => few1 ig true W hle2 hf
    obtain ⟨q, rfl⟩ : ∃ q, ig = txt q := ⟨ig.data.toList, (list_txt ig).symm⟩
    have cA := Lib.hid fun W (h : Spc W) => snakeIg_any l q W (by omega) ha h
    have cB : ∀ W, Spc W → Calls Tryd.prog 23 #[.string (txt l), .int .u8 95, .string (txt q), .bool false] W fun e w' => e = .returned (.string (txt (del 95 false (igB q) none (trimSpaceD l)))) ∧ Below W.heap.size W w' := fun W h => scrDel_any l 95 q false W (by omega) ha h
    have cB := Lib.hid cB
    generalize del 95 false (igB q) none (trimSpaceD l) = R at *
    clear ha hpl
    go_enter Tryd.func6, Tryd.ntmps6
    go_wp2_with (first
      | (go_at_call 21; refine (ig_ex _ hS).mono ?_; rintro e w1 ⟨rfl, hb1⟩)
      | (go_at_call 22; refine (cP.out _).mono ?_; rintro e w2 ⟨rfl, hb2⟩)
      | (go_at_call 15; refine (cF.out _).mono ?_; rintro e w3 ⟨rfl, hb3⟩)
      | (go_at_call 21; refine (cA.out _ (hS.below (chain (chain hb1 hb2) hb3))).mono ?_; rintro e w4 ⟨rfl, hb4⟩)
      | (go_at_call 23; refine (cB.out _ (hS.below (chain (chain (chain hb1 hb2) hb3) hb4))).mono ?_; rintro e w5 ⟨rfl, hb5⟩))
    go_ret
    exact ⟨ret_bool (by simp), chain (chain (chain (chain hb1 hb2) hb3) hb4) hb5⟩

end Go.Proofs.YtplillcmgahapaaDoor
