/- laws.letter, laws.simple; the length of a text in characters. -/
import Derived.Test.YtbomlhhpokknaaaDoorQBase
namespace Go.Proofs.YtbomlhhpokknaaaDoor
open Go.RowKit U8
open Go.Lib hiding intOf

open Go.Lib hiding intOf

open Go.Lib hiding intOf

def letN (r : Nat) : Bool := decide ((65 ≤ r ∧ r ≤ 90) ∨ (97 ≤ r ∧ r ≤ 122))
theorem letter_any (x : Nat) (w : World) (h : x < 256) :
    Calls Tryd.prog 37 #[.int .u8 x] w fun e w' => e = .returned (.bool (letN x)) ∧ w' = w := by
  by_cases a : x < 65
  · have e : letN x = false := by unfold letN; rw [decide_eq_false_iff_not]; omega
    rw [e]; clear e
    go_enter Tryd.func37, Tryd.ntmps37
    go_wp2
    go_ret
    exact ⟨ret_bool (by simp <;> omega), rfl⟩
  by_cases b : x ≤ 90
  · have e : letN x = true := by unfold letN; rw [decide_eq_true_eq]; omega
    rw [e]; clear e
    go_enter Tryd.func37, Tryd.ntmps37
    go_wp2
    go_ret
    exact ⟨ret_bool (by simp <;> omega), rfl⟩
  by_cases c : x < 97
  · have e : letN x = false := by unfold letN; rw [decide_eq_false_iff_not]; omega
    rw [e]; clear e
    go_enter Tryd.func37, Tryd.ntmps37
    go_wp2
    go_ret
    exact ⟨ret_bool (by simp <;> omega), rfl⟩
  by_cases d : x ≤ 122
  · have e : letN x = true := by unfold letN; rw [decide_eq_true_eq]; omega
    rw [e]; clear e
    go_enter Tryd.func37, Tryd.ntmps37
    go_wp2
    go_ret
    exact ⟨ret_bool (by simp <;> omega), rfl⟩
  · have e : letN x = false := by unfold letN; rw [decide_eq_false_iff_not]; omega
    rw [e]; clear e
    go_enter Tryd.func37, Tryd.ntmps37
    go_wp2
    go_ret
    exact ⟨ret_bool (by simp <;> omega), rfl⟩
def simB (l : List UInt8) : Bool := l.all (fun b => letN b.toNat || decide (48 ≤ b.toNat ∧ b.toNat ≤ 57)) && decide (0 < l.length)
set_option maxHeartbeats 800000 in
set_option maxRecDepth 100000 in
theorem simple_any (l : List UInt8) (w : World) (hl : l.length ≤ 2147483647) :
    Calls Tryd.prog 24 #[.string (txt l)] w fun e w' => e = .returned (.bool (simB l)) ∧ w' = w := by
  have hll := txt_size l
  go_enter Tryd.func24, Tryd.ntmps24
  go_wp2
  go_loopg [3] (l.length + 1) (fun gk i wr => ∃ k : Nat, k ≤ l.length ∧ i = .int .i64 k ∧ Hid ((l.take k).all (fun b => letN b.toNat || decide (48 ≤ b.toNat ∧ b.toNat ≤ 57)) = true) ∧ l.length - k < gk ∧ wr = w)
  case atStart => exact ⟨0, by omega, rfl, rfl, by omega, rfl⟩
  case round =>
    obtain ⟨k, hk, rfl, hall, hg, rfl⟩ := hrel
    by_cases hkl : k < l.length
    · obtain ⟨b, hbk⟩ : ∃ b, l[k]? = some b := ⟨l[k], List.getElem?_eq_getElem hkl⟩
      have hix := run_byte l k b hbk
      have HB := Lib.hid hbk
      clear hbk
      obtain ⟨gk, rfl⟩ : ∃ m, gk = m + 1 := ⟨gk - 1, by omega⟩
      have hb256 := b.toNat_lt
      obtain ⟨x, hx⟩ : ∃ x, b.toNat = x := ⟨_, rfl⟩
      rw [hx] at hix hb256
      have HX := Lib.hid hx
      clear hx
      obtain ⟨lt, hlet⟩ : ∃ q, letN x = q := ⟨_, rfl⟩
      have cL := Lib.hid fun W => hlet ▸ letter_any x W (by omega)
      have HLT := Lib.hid hlet
      clear hlet
      cases lt with
      | true =>
        go_wp2_with (go_at_call 37; refine (cL.out _).mono ?_; rintro e wr ⟨rfl, rfl⟩)
        go_roundg gk
        case rel =>
          refine ⟨k + 1, by omega, by go_num, ?_, by omega, rfl⟩
          show _ = _
          rw [List.take_add_one, HB.out, List.all_append, hall.out]
          simp [HX.out, HLT.out]
        case measure => omega
      | false =>
        by_cases c0 : x < 48
        · go_wp2_with (go_at_call 37; refine (cL.out _).mono ?_; rintro e wr ⟨rfl, rfl⟩)
          go_ret
          have hm : b ∈ l := List.mem_of_getElem? HB.out
          have hf : l.all (fun b => letN b.toNat || decide (48 ≤ b.toNat ∧ b.toNat ≤ 57)) = false := by
            rw [List.all_eq_false]
            exact ⟨b, hm, by simp [HX.out, HLT.out]; omega⟩
          exact ⟨by unfold simB; rw [hf]; rfl, rfl⟩
        by_cases c1 : x ≤ 57
        · go_wp2_with (go_at_call 37; refine (cL.out _).mono ?_; rintro e wr ⟨rfl, rfl⟩)
          go_roundg gk
          case rel =>
            refine ⟨k + 1, by omega, by go_num, ?_, by omega, rfl⟩
            show _ = _
            rw [List.take_add_one, HB.out, List.all_append, hall.out]
            simp [HX.out, HLT.out]; omega
          case measure => omega
        · go_wp2_with (go_at_call 37; refine (cL.out _).mono ?_; rintro e wr ⟨rfl, rfl⟩)
          go_ret
          have hm : b ∈ l := List.mem_of_getElem? HB.out
          have hf : l.all (fun b => letN b.toNat || decide (48 ≤ b.toNat ∧ b.toNat ≤ 57)) = false := by
            rw [List.all_eq_false]
            exact ⟨b, hm, by simp [HX.out, HLT.out]; omega⟩
          exact ⟨by unfold simB; rw [hf]; rfl, rfl⟩
    · obtain rfl : k = l.length := by omega
      have e := hall.out
      rw [List.take_length] at e
      by_cases h0 : 0 < l.length
      · have e2 : simB l = true := by unfold simB; rw [e, decide_eq_true h0]; rfl
        go_wp2
        go_ret
        exact ⟨ret_bool e2.symm, rfl⟩
      · have e2 : simB l = false := by unfold simB; rw [decide_eq_false h0, Bool.and_false]
        go_wp2
        go_ret
        exact ⟨ret_bool e2.symm, rfl⟩

/-- How many characters a text has. -/
theorem len_any (rs : List Nat) (w : World) (hs : Scs rs) (hl : (enc rs).length ≤ 1000000) :
    Calls Tryd.prog 38 #[.string (txt (enc rs))] w fun e w' => e = .returned (.int .i64 rs.length) ∧ Below w.heap.size w w' := by
  have c := Tryd.utf8_RuneCountInString (txt (enc rs))
  go_enter Tryd.func38, Tryd.ntmps38
  go_wp2_with (go_at_call 47; refine (Tryd.utf8_RuneCountInString (txt (enc rs)) _ (by rw [txt_size]; omega)).mono ?_; rintro e w' ⟨rfl, pos, rfl⟩)
  go_ret
  exact ⟨ret_int (by rw [count_txt rs hs]), (Below.refl _ _).alloc (Nat.le_refl _) _⟩
theorem implLen_any (rs : List Nat) (w : World) (hs : Scs rs) (hl : (enc rs).length ≤ 1000000) :
    Calls Tryd.prog 25 #[.string (txt (enc rs))] w fun e w' => e = .returned (.int .i64 rs.length) ∧ Below w.heap.size w w' := by
  go_enter Tryd.func25, Tryd.ntmps25
  go_wp2_with (go_at_call 38; refine (len_any rs _ hs hl).mono ?_; rintro e w' ⟨rfl, hb⟩)
  go_ret
  exact ⟨rfl, hb⟩

end Go.Proofs.YtbomlhhpokknaaaDoor
