/- The law FnSuccessorNumbers: its walk. -/
import Derived.Test.YtngehfjcfiehlaaSNumbers
namespace Go.Proofs.Ytngehfjcfiehlaa
open Go.RowKit U8
open Go.Lib hiding intOf

theorem implSucc_carry (p : List Nat) (x k : Nat) (w : World) (hs : Scs (p ++ x :: List.replicate k 57)) (hl : (p ++ x :: List.replicate k 57).length ≤ 100000) (hx : 48 ≤ x ∧ x ≤ 56) :
    Calls Try.prog 5 #[.string (txt (enc (p ++ x :: List.replicate k 57)))] w fun e w' => e = .returned (.string (txt (enc (p ++ (x + 1) :: List.replicate k 48)))) ∧ Below w.heap.size w w' := by
  go_enter Try.func5, Try.ntmps5
  go_wp2_with (go_at_call 10; refine (succ_carry p x k _ hs hl hx).mono ?_; rintro e w' ⟨rfl, hb⟩)
  go_ret
  exact ⟨rfl, hb⟩
theorem implSucc_nines (k : Nat) (w : World) (hk : 1 ≤ k) (hl : k ≤ 100000) :
    Calls Try.prog 5 #[.string (txt (enc (List.replicate k 57)))] w fun e w' => e = .returned (.string (txt (enc (49 :: List.replicate k 48)))) ∧ Below w.heap.size w w' := by
  go_enter Try.func5, Try.ntmps5
  go_wp2_with (go_at_call 10; refine (succ_nines k _ hk hl).mono ?_; rintro e w' ⟨rfl, hb⟩)
  go_ret
  exact ⟨rfl, hb⟩
theorem pad_append (z n : Nat) : (⟨#[48]⟩ : ByteArray) ++ txt (enc (List.replicate z 48 ++ digs n)) = txt (enc (List.replicate (z + 1) 48 ++ digs n)) := by
  rw [List.replicate_succ, List.cons_append, enc_cons, ← txt_append]; rfl
theorem pad_size (z n : Nat) : (txt (enc (List.replicate z 48 ++ digs n))).size = z + (digs n).length := by
  have ha : asc (List.replicate z 48 ++ digs n) := fun x hx => by
    rcases List.mem_append.1 hx with h | h
    · have := (List.mem_replicate.1 h).2; omega
    · have := digs_isD _ x h; omega
  rw [txt_size, asc_len ha, List.length_append, List.length_replicate]
theorem succ_09 (w : World) :
    Calls Try.prog 5 #[.string ⟨#[48, 57]⟩] w fun e w' => e = .returned (.string ⟨#[49, 48]⟩) ∧ Below w.heap.size w w' :=
  implSucc_carry [] 48 1 w (fun x hx => by simp at hx; unfold Sc; omega) (by decide) (by omega)
/-- What Successor makes of a padded number: the next one, padded as far. -/
theorem succ_padded (z n : Nat) (w : World) (hz : (List.replicate z 48 ++ digs n).length ≤ 100000) :
    Calls Try.prog 5 #[.string (txt (enc (List.replicate z 48 ++ digs n)))] w fun e w' => e = .returned (.string (txt (enc (List.replicate ((List.replicate z 48 ++ digs n).length - (digs (n + 1)).length) 48 ++ digs (n + 1))))) ∧ Below w.heap.size w w' := by
  have hD : isD (List.replicate z 48 ++ digs n) := fun y hy => by
    rcases List.mem_append.1 hy with h | h
    · have := (List.mem_replicate.1 h).2; omega
    · exact digs_isD _ y h
  rcases nines_split _ hD with ⟨k, hk⟩ | ⟨p, x, k, hp, hx⟩
  · have hk1 : 1 ≤ k := by
      have h := congrArg List.length hk
      have := digs_pos n
      simp at h; omega
    have hnx := next_nines k n z hk1 hk
    rw [hk] at hz ⊢
    rw [List.length_replicate] at hz ⊢
    rw [show k - (digs (n + 1)).length = 0 by omega, List.replicate_zero, List.nil_append, ← hnx.1]
    exact implSucc_nines k w hk1 hz
  · rw [hp] at hz hD ⊢
    rw [← next_carry p x k n z hx hD hp]
    exact implSucc_carry p x k w hD.scs hz hx

set_option maxHeartbeats 3200000 in
set_option maxRecDepth 100000 in
theorem law_numbers (n d : Int) (w : World) (hn0 : 0 ≤ n) (hn1 : n ≤ 4294967295) (hd0 : 0 ≤ d) (hd1 : d ≤ 255) :
    Calls Try.prog 4 #[.int .u32 n, .int .u8 d] w fun e w' => e = .returned (.bool true) ∧ Below w.heap.size w w' := by
  obtain ⟨n, rfl⟩ : ∃ m : Nat, n = m := ⟨n.toNat, by omega⟩
  obtain ⟨d, rfl⟩ : ∃ m : Nat, d = m := ⟨d.toNat, by omega⟩
  go_enter Try.func4, Try.ntmps4
  go_wp2_with fail
  refine (succ_09 _).mono ?_
  rintro e w1 ⟨rfl, hb1⟩
  go_wp2_with fail
  refine (number_any n _ (by omega)).mono ?_
  rintro e w2 ⟨rfl, hb2⟩
  have hc2 := chain hb1 hb2
  have hdm : (d : Int) % 15 = ((d % 15 : Nat) : Int) := rfl
  have hdb : d % 15 < 15 := Nat.mod_lt _ (by omega)
  generalize d % 15 = m at *
  have hL1 := digs_pos n
  have hL2 := digs_len n 10 (by omega) (by omega)
  have hM1 := digs_pos (n + 1)
  have hM2 := digs_len (n + 1) 10 (by omega) (by omega)
  go_wp2
  go_loopg [5] (17) (fun gk s wr => ∃ z : Nat, s = .string (txt (enc (List.replicate z 48 ++ digs n))) ∧ z ≤ 15 ∧ 15 - z < gk ∧ wr = w2)
  case atStart => exact ⟨0, by simp, by omega, by omega, rfl⟩
  case round =>
    obtain ⟨z, rfl, hz, hg, rfl⟩ := hrel
    have hs1 : (txt (enc (List.replicate z 48 ++ digs n))).size ≤ z + (digs n).length := by rw [pad_size]; exact Nat.le_refl _
    have hs2 : z + (digs n).length ≤ (txt (enc (List.replicate z 48 ++ digs n))).size := by rw [pad_size]; exact Nat.le_refl _
    by_cases hlt : z + (digs n).length < m
    · obtain ⟨gk, rfl⟩ : ∃ m, gk = m + 1 := ⟨gk - 1, by omega⟩
      have hcat : (⟨#[48]⟩ : ByteArray).size + (txt (enc (List.replicate z 48 ++ digs n))).size ≤ 1000 := by show 1 + _ ≤ _; omega
      have happ := pad_append z n
      go_wp2
      go_roundg gk
      case rel => exact ⟨z + 1, rfl, by omega, by omega, rfl⟩
      case measure => omega
    · have hpad := Lib.hid fun W => succ_padded z n W (by simp; omega)
      go_wp2_with fail
      rw [show (n : Int) + 1 = ((n + 1 : Nat) : Int) by omega]
      refine (number_any (n + 1) _ (by omega)).mono ?_
      rintro e w3 ⟨rfl, hb3⟩
      have hc3 := chain hc2 hb3
      have HP := hpad
      clear hlt
      go_wp2
      go_loopg [6] (27) (fun gk t wr => ∃ y : Nat, t = .string (txt (enc (List.replicate y 48 ++ digs (n + 1)))) ∧ (y = 0 ∨ y + (digs (n + 1)).length ≤ z + (digs n).length) ∧ 25 - y < gk ∧ wr = w3)
      case atStart => exact ⟨0, by simp, by omega, by omega, rfl⟩
      case round =>
        obtain ⟨y, rfl, hy, hg3, rfl⟩ := hrel
        have ht1 : (txt (enc (List.replicate y 48 ++ digs (n + 1)))).size ≤ y + (digs (n + 1)).length := by rw [pad_size]; exact Nat.le_refl _
        have ht2 : y + (digs (n + 1)).length ≤ (txt (enc (List.replicate y 48 ++ digs (n + 1)))).size := by rw [pad_size]; exact Nat.le_refl _
        by_cases hlt : y + (digs (n + 1)).length < z + (digs n).length
        · obtain ⟨gk, rfl⟩ : ∃ m, gk = m + 1 := ⟨gk - 1, by omega⟩
          have hcat : (⟨#[48]⟩ : ByteArray).size + (txt (enc (List.replicate y 48 ++ digs (n + 1)))).size ≤ 1000 := by show 1 + _ ≤ _; omega
          have happ := pad_append y (n + 1)
          go_wp2
          go_roundg gk
          case rel => exact ⟨y + 1, rfl, by omega, by omega, rfl⟩
          case measure => omega
        · have hyz : (List.replicate z 48 ++ digs n).length - (digs (n + 1)).length = y := by
            rw [List.length_append, List.length_replicate]; omega
          have cP := Lib.hid fun W => hyz ▸ HP.out W
          clear hyz
          go_wp2_with (go_at_call 5; refine (cP.out _).mono ?_; rintro e w4 ⟨rfl, hb4⟩)
          go_ret
          exact ⟨by simp, chain hc3 hb4⟩

end Go.Proofs.Ytngehfjcfiehlaa
