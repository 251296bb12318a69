/- The reference of camel case: spec.letter, small, big, one, parted, XCamel; laws.told. -/
import Derived.Test.YthanbbflemkomaaDoorMPlain
import Derived.BigQuiet
namespace Go.Proofs.YthanbbflemkomaaDoor
open Go.RowKit U8
open Go.Lib hiding intOf

theorem sletter_any (x : Nat) (w : World) (hx : x < 256) :
    Calls Tryd.prog 55 #[.int .u8 x] w fun e w' => e = .returned (.bool (decide ((97 ≤ x ∧ x ≤ 122) ∨ (65 ≤ x ∧ x ≤ 90)))) ∧ w' = w := by
  obtain ⟨B, hB⟩ : ∃ B, decide ((97 ≤ x ∧ x ≤ 122) ∨ (65 ≤ x ∧ x ≤ 90)) = B := ⟨_, rfl⟩
  rw [hB]
  have HB := Lib.hid hB
  clear hB
  rcases (show x < 65 ∨ (65 ≤ x ∧ x ≤ 90) ∨ (90 < x ∧ x < 97) ∨ (97 ≤ x ∧ x ≤ 122) ∨ 122 < x by omega) with h | h | h | h | h
  all_goals
    go_enter Tryd.func55, Tryd.ntmps55
    go_wp2
    go_ret
    refine ⟨ret_bool ?_, rfl⟩
    rw [← HB.out]
    first
      | exact (decide_eq_true (by omega)).symm
      | exact (decide_eq_false (by omega)).symm
      | exact decide_eq_decide.2 (by omega)
      | (rw [Bool.eq_iff_iff]; simp only [Bool.or_eq_true, decide_eq_true_eq]; omega)
theorem sletter_is (b : UInt8) (q : Bool) (w : World) (hq : ltr b = q) :
    Calls Tryd.prog 55 #[.int .u8 b.toNat] w fun e w' => e = .returned (.bool q) ∧ w' = w := by
  have c := sletter_any b.toNat w b.toNat_lt
  rw [show decide ((97 ≤ b.toNat ∧ b.toNat ≤ 122) ∨ (65 ≤ b.toNat ∧ b.toNat ≤ 90)) = q by
    rw [← hq]; unfold ltr isCap isLow; rw [← Bool.decide_or]; exact decide_eq_decide.2 (by omega)] at c
  exact c
theorem small_any (b : UInt8) (w : World) :
    Calls Tryd.prog 48 #[.int .u8 b.toNat] w fun e w' => e = .returned (.int .u8 (toLo b).toNat) ∧ w' = w := by
  have h := toLo_nat b
  have h8 := b.toNat_lt
  obtain ⟨x, hx⟩ : ∃ x, b.toNat = x := ⟨_, rfl⟩
  obtain ⟨y, hy⟩ : ∃ y, (toLo b).toNat = y := ⟨_, rfl⟩
  rw [hx] at h h8 ⊢
  rw [hy] at h ⊢
  have H := Lib.hid h
  clear h hx hy
  rcases (show x < 65 ∨ (65 ≤ x ∧ x ≤ 90) ∨ 90 < x by omega) with h | h | h
  all_goals
    go_enter Tryd.func48, Tryd.ntmps48
    go_wp2
    go_ret
    refine ⟨ret_int ?_, rfl⟩
    rw [H.out]
    first
      | (rw [if_pos (by omega)]; omega)
      | (rw [if_neg (by omega)])
theorem big_any (b : UInt8) (w : World) :
    Calls Tryd.prog 49 #[.int .u8 b.toNat] w fun e w' => e = .returned (.int .u8 (toUp b).toNat) ∧ w' = w := by
  have h := toUp_nat b
  have h8 := b.toNat_lt
  obtain ⟨x, hx⟩ : ∃ x, b.toNat = x := ⟨_, rfl⟩
  obtain ⟨y, hy⟩ : ∃ y, (toUp b).toNat = y := ⟨_, rfl⟩
  rw [hx] at h h8 ⊢
  rw [hy] at h ⊢
  have H := Lib.hid h
  clear h hx hy
  rcases (show x < 97 ∨ (97 ≤ x ∧ x ≤ 122) ∨ 122 < x by omega) with h | h | h
  all_goals
    go_enter Tryd.func49, Tryd.ntmps49
    go_wp2
    go_ret
    refine ⟨ret_int ?_, rfl⟩
    rw [H.out]
    first
      | (rw [if_pos (by omega)]; omega)
      | (rw [if_neg (by omega)])
theorem told_open (a b : ByteArray) (w : World) :
    Calls Tryd.prog 22 #[.string a, .string b, .int .i64 2] w fun e w' => e = .returned (.bool true) ∧ w' = w := by
  go_enter Tryd.func22, Tryd.ntmps22
  go_wp2
  go_ret
  exact ⟨rfl, rfl⟩
theorem told_yes (a : ByteArray) (w : World) :
    Calls Tryd.prog 22 #[.string a, .string a, .int .i64 1] w fun e w' => e = .returned (.bool true) ∧ w' = w := by
  go_enter Tryd.func22, Tryd.ntmps22
  go_wp2
  go_ret
  exact ⟨ret_bool (by simp), rfl⟩

theorem drewN_two (w : World) (a b : Nat) : (w.drewN a).drewN b = w.drewN (a + b) := by simp [World.drewN, Nat.add_assoc]
/-- A byte of a text, by its number. -/
theorem run_at (l : List UInt8) (k : Nat) (b : UInt8) (x : Nat) (hb : l[k]? = some b) (hx : b.toNat = x) : ∀ W, (Instr.index 9 (.string (txt l)) (.int .i64 k)).run Tryd.prog W = .ok (.int .u8 x) W := by
  subst hx; exact run_byte l k b hb
set_option maxHeartbeats 1600000 in
set_option maxRecDepth 100000 in
theorem one_any (x : List UInt8) (w : World) (hx : x.length ≤ 1000000) :
    Calls Tryd.prog 47 #[.string (txt x)] w fun e w' => e = .returned (.bool (oneB x)) ∧ ∃ q, w' = w.drewN q := by
  obtain ⟨S, hS⟩ : ∃ S, oneB x = S := ⟨_, rfl⟩
  rw [hS]
  have hts := txt_size x
  match x with
  | [] =>
    have HF : Hid (S = false) := hS.symm
    have hz : (txt ([] : List UInt8)).size = 0 := rfl
    clear hS hts
    go_enter Tryd.func47, Tryd.ntmps47
    go_wp2
    go_loopg [3] 1 (fun gk v3 wr => v3 = .int .i64 1 ∧ wr = w)
    case atStart => exact ⟨rfl, rfl⟩
    case round =>
      obtain ⟨rfl, rfl⟩ := hrel
      go_wp2
      go_ret
      exact ⟨by rw [HF.out]; rfl, 0, rfl⟩
  | y :: x =>
    obtain ⟨z, hz⟩ : ∃ z, y.toNat = z := ⟨_, rfl⟩
    have h00 : ∀ W, (Instr.index 9 (.string (txt (y :: x))) (.int .i64 0)).run Tryd.prog W = .ok (.int .u8 z) W := run_at (y :: x) 0 y z rfl hz
    rw [List.length_cons] at hts hx
    have HS : Hid (S = (decide (0 < x.length) && x.all fun b => decide (b.toNat < 97) == decide (z < 97))) := by
      show _ = _
      rw [← hS, ← hz]
      unfold oneB
      rw [List.all_cons, List.headD_cons, beq_self_eq_true, Bool.true_and, List.length_cons]
      exact congrArg (· && _) (decide_eq_decide.2 (by omega))
    clear hS hz
    go_enter Tryd.func47, Tryd.ntmps47
    go_wp2
    go_loopg [3] (x.length + 1) (fun gk v3 wr => ∃ k : Nat, v3 = .int .i64 ((k : Int) + 1) ∧ k ≤ x.length ∧ x.length - k < gk ∧ Hid (S = (decide (0 < x.length) && (x.drop k).all fun b => decide (b.toNat < 97) == decide (z < 97))) ∧ Hid (∃ q, wr = w.drewN q))
    case atStart => exact ⟨0, rfl, by omega, by omega, HS.out, 0, rfl⟩
    case round =>
      obtain ⟨k, rfl, hk, hg, HR, HW⟩ := hrel
      by_cases hlt : k < x.length
      · obtain ⟨gk, rfl⟩ : ∃ m, gk = m + 1 := ⟨gk - 1, by omega⟩
        have hb := List.getElem?_eq_getElem hlt
        have hd := List.drop_eq_getElem_cons hlt
        generalize x[k] = b at hb hd
        obtain ⟨v, hv⟩ : ∃ v, b.toNat = v := ⟨_, rfl⟩
        have h1 := run_at (y :: x) (k + 1) b v (by simpa using hb) hv
        rw [show (((k + 1 : Nat) : Int)) = (k : Int) + 1 by omega] at h1
        have HR2 : Hid (S = (decide (0 < x.length) && ((decide (v < 97) == decide (z < 97)) && (x.drop (k + 1)).all fun b => decide (b.toNat < 97) == decide (z < 97)))) := by
          show _ = _
          rw [HR.out, hd, List.all_cons, hv]
        clear hb hd hv HR
        by_cases hv1 : (v : Int) < 97
        · by_cases hz1 : (z : Int) < 97
          · have HR3 : Hid (S = (decide (0 < x.length) && (x.drop (k + 1)).all fun b => decide (b.toNat < 97) == decide (z < 97))) := by
              show _ = _
              rw [HR2.out, decide_eq_true (p := v < 97) (by omega), decide_eq_true (p := z < 97) (by omega)]; rfl
            clear HR2
            go_upto_region 4 with fail
            go_quiet (fail)
            go_wp2
            go_roundg gk
            case rel => exact ⟨k + 1, by go_num, by omega, by omega, HR3.out, by obtain ⟨q, e⟩ := HW.out; exact ⟨_, by rw [e, drewN_two]⟩⟩
            case measure => omega
          · have HF : Hid (S = false) := by
              show _ = _
              rw [HR2.out, decide_eq_true (p := v < 97) (by omega), decide_eq_false (p := z < 97) (by omega)]; simp
            clear HR2
            go_upto_region 4 with fail
            go_quiet (fail)
            go_wp2
            go_ret
            exact ⟨by rw [HF.out]; rfl, by obtain ⟨q, e⟩ := HW.out; exact ⟨_, by rw [e, drewN_two]⟩⟩
        · by_cases hz1 : (z : Int) < 97
          · have HF : Hid (S = false) := by
              show _ = _
              rw [HR2.out, decide_eq_false (p := v < 97) (by omega), decide_eq_true (p := z < 97) (by omega)]; simp
            clear HR2
            go_upto_region 4 with fail
            go_quiet (fail)
            go_wp2
            go_ret
            exact ⟨by rw [HF.out]; rfl, by obtain ⟨q, e⟩ := HW.out; exact ⟨_, by rw [e, drewN_two]⟩⟩
          · have HR3 : Hid (S = (decide (0 < x.length) && (x.drop (k + 1)).all fun b => decide (b.toNat < 97) == decide (z < 97))) := by
              show _ = _
              rw [HR2.out, decide_eq_false (p := v < 97) (by omega), decide_eq_false (p := z < 97) (by omega)]; rfl
            clear HR2
            go_upto_region 4 with fail
            go_quiet (fail)
            go_wp2
            go_roundg gk
            case rel => exact ⟨k + 1, by go_num, by omega, by omega, HR3.out, by obtain ⟨q, e⟩ := HW.out; exact ⟨_, by rw [e, drewN_two]⟩⟩
            case measure => omega
      · have HF : Hid (S = decide (0 < x.length)) := by show _ = _; rw [HR.out, List.drop_eq_nil_of_le (by omega)]; simp
        clear HR
        go_wp2
        go_ret
        exact ⟨by rw [HF.out]; exact ret_bool (decide_eq_decide.2 (by omega)), HW.out⟩

end Go.Proofs.YthanbbflemkomaaDoor
