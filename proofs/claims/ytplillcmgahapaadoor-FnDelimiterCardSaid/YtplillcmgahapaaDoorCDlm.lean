/- The law FnDelimiter: its walk. -/
import Derived.Test.YtplillcmgahapaaDoorCIgn
namespace Go.Proofs.YtplillcmgahapaaDoor
open Go.RowKit U8
open Go.Lib hiding intOf

theorem letter_is (x : Nat) (b : Bool) (w : World) (hx : x < 256) (hb : decide ((97 ≤ x ∧ x ≤ 122) ∨ (65 ≤ x ∧ x ≤ 90)) = b) :
    Calls Tryd.prog 12 #[.int .u8 x] w fun e w' => e = .returned (.bool b) ∧ w' = w := hb ▸ letter_any x w hx

set_option maxHeartbeats 3200000 in
set_option maxRecDepth 100000 in
theorem law_delimiter (s : ByteArray) (d : Int) (w : World) (hsz : s.size ≤ 140737488351232) (hd0 : 0 ≤ d) (hd1 : d ≤ 255) (hS : Spc w) :
    Calls Tryd.prog 7 #[.string s, .int .u8 d] w fun e w' => e = .returned (.bool true) ∧ Below w.heap.size w w' := by
  by_cases hbig : 2147483647 < s.size
  · go_enter Tryd.func7, Tryd.ntmps7
    go_wp2
    go_ret
    exact ⟨rfl, Below.refl _ _⟩
  have hle : s.size ≤ 2147483647 := by omega
  clear hbig hsz
  rcases pl_bytes s with hpl | ⟨l, rfl, ha, hl4, hpl⟩
  · have cP := Lib.hid fun W => plain_is s false W hle hpl
    go_enter Tryd.func7, Tryd.ntmps7
    go_wp2_with (first
      | (go_at_call 24; refine (del_ex _ hS).mono ?_; rintro e w1 ⟨rfl, hb1⟩)
      | (go_at_call 22; refine (cP.out _).mono ?_; rintro e w2 ⟨rfl, hb2⟩))
    go_ret
    exact ⟨rfl, chain hb1 hb2⟩
  have cP := Lib.hid fun W => plain_is (txt l) true W hle hpl
  obtain ⟨x, rfl⟩ : ∃ x : Nat, d = x := ⟨d.toNat, by omega⟩
  have hx : x < 256 := by omega
  rcases (show (x < 33 ∨ 126 < x) ∨ ((97 ≤ x ∧ x ≤ 122) ∨ (65 ≤ x ∧ x ≤ 90)) ∨ (48 ≤ x ∧ x ≤ 57) ∨ (33 ≤ x ∧ x < 48) ∨ (57 < x ∧ x < 65) ∨ (90 < x ∧ x < 97) ∨ (122 < x ∧ x ≤ 126) by omega) with h | h | h | h
  · rcases h with h | h <;>
    · go_enter Tryd.func7, Tryd.ntmps7
      go_wp2_with (first
        | (go_at_call 24; refine (del_ex _ hS).mono ?_; rintro e w1 ⟨rfl, hb1⟩)
        | (go_at_call 22; refine (cP.out _).mono ?_; rintro e w2 ⟨rfl, hb2⟩))
      go_ret
      exact ⟨rfl, chain hb1 hb2⟩
  · have cL := Lib.hid fun W => letter_is x true W hx (by rw [decide_eq_true_eq]; exact h)
    have h1 : 33 ≤ x := by omega
    have h2 : x ≤ 126 := by omega
    clear h
    go_enter Tryd.func7, Tryd.ntmps7
    go_wp2_with (first
      | (go_at_call 24; refine (del_ex _ hS).mono ?_; rintro e w1 ⟨rfl, hb1⟩)
      | (go_at_call 22; refine (cP.out _).mono ?_; rintro e w2 ⟨rfl, hb2⟩)
      | (go_at_call 12; refine (cL.out _).mono ?_; rintro e w3 ⟨rfl, rfl⟩))
    go_ret
    exact ⟨rfl, chain hb1 hb2⟩
  · have cL := Lib.hid fun W => letter_is x false W hx (by rw [decide_eq_false_iff_not]; omega)
    go_enter Tryd.func7, Tryd.ntmps7
    go_wp2_with (first
      | (go_at_call 24; refine (del_ex _ hS).mono ?_; rintro e w1 ⟨rfl, hb1⟩)
      | (go_at_call 22; refine (cP.out _).mono ?_; rintro e w2 ⟨rfl, hb2⟩)
      | (go_at_call 12; refine (cL.out _).mono ?_; rintro e w3 ⟨rfl, rfl⟩))
    go_ret
    exact ⟨rfl, chain hb1 hb2⟩
  · have cL := Lib.hid fun W => letter_is x false W hx (by rw [decide_eq_false_iff_not]; omega)
    have e1 : (x.toUInt8).toNat = x := u8_toNat hx
    have cD := Lib.hid fun W (k : Spc W) => toDel_any l x.toUInt8 W (by omega) ha k
    have cN := Lib.hid fun W (k : Spc W) => snake_any l W (by omega) ha k
    have hlen := del_len 95 false (igB []) none (trimSpaceD l)
    have htl := trim_len l
    have cW : ∀ W, Calls Tryd.prog 13 #[.string (txt (del 95 false (igB []) none (trimSpaceD l))), .int .u8 95, .int .u8 x] W fun e w' => e = .returned (.string (txt (del x.toUInt8 false (igB []) none (trimSpaceD l)))) ∧ Below W.heap.size W w' := fun W => by
      have h := swapped_any (del 95 false (igB []) none (trimSpaceD l)) 95 x.toUInt8 W (by omega)
      rw [e1] at h
      rw [← show (del 95 false (igB []) none (trimSpaceD l)).map (swpB 95 x.toUInt8) = del x.toUInt8 false (igB []) none (trimSpaceD l) from del_swap x.toUInt8 false none (trimSpaceD l)]
      exact h
    have CW := Lib.hid cW
    rw [e1] at cD
    generalize del 95 false (igB []) none (trimSpaceD l) = R1 at *
    generalize del x.toUInt8 false (igB []) none (trimSpaceD l) = R2 at *
    clear e1 cW hlen htl ha hpl
    rcases h with h | h | h | h <;>
    · go_enter Tryd.func7, Tryd.ntmps7
      go_wp2_with (first
        | (go_at_call 24; refine (del_ex _ hS).mono ?_; rintro e w1 ⟨rfl, hb1⟩)
        | (go_at_call 22; refine (cP.out _).mono ?_; rintro e w2 ⟨rfl, hb2⟩)
        | (go_at_call 12; refine (cL.out _).mono ?_; rintro e w3 ⟨rfl, rfl⟩)
        | (go_at_call 24; refine (cD.out _ (hS.below (chain hb1 hb2))).mono ?_; rintro e w4 ⟨rfl, hb4⟩)
        | (go_at_call 25; refine (cN.out _ (hS.below (chain (chain hb1 hb2) hb4))).mono ?_; rintro e w5 ⟨rfl, hb5⟩)
        | (go_at_call 13; refine (CW.out _).mono ?_; rintro e w6 ⟨rfl, hb6⟩))
      go_ret
      exact ⟨ret_bool (by simp), chain (chain (chain (chain hb1 hb2) hb4) hb5) hb6⟩

end Go.Proofs.YtplillcmgahapaaDoor
