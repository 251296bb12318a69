/- few, simple, marks: the tests of the law FnSuccessorFrame. -/
import Derived.Test.YtngehfjcfiehlaaSBase
namespace Go.Proofs.Ytngehfjcfiehlaa
open Go.RowKit U8
open Go.Lib hiding intOf

open Go.Lib hiding intOf

def letN (r : Nat) : Bool := decide ((65 ≤ r ∧ r ≤ 90) ∨ (97 ≤ r ∧ r ≤ 122))
theorem letter_any (x : Nat) (w : World) (h : x < 256) :
    Calls Try.prog 12 #[.int .u8 x] w fun e w' => e = .returned (.bool (letN x)) ∧ w' = w := by
  by_cases a : x < 65
  · have e : letN x = false := by unfold letN; rw [decide_eq_false_iff_not]; omega
    rw [e]; clear e
    go_enter Try.func12, Try.ntmps12
    go_wp2
    go_ret
    exact ⟨ret_bool (by simp <;> omega), rfl⟩
  by_cases b : x ≤ 90
  · have e : letN x = true := by unfold letN; rw [decide_eq_true_eq]; omega
    rw [e]; clear e
    go_enter Try.func12, Try.ntmps12
    go_wp2
    go_ret
    exact ⟨ret_bool (by simp <;> omega), rfl⟩
  by_cases c : x < 97
  · have e : letN x = false := by unfold letN; rw [decide_eq_false_iff_not]; omega
    rw [e]; clear e
    go_enter Try.func12, Try.ntmps12
    go_wp2
    go_ret
    exact ⟨ret_bool (by simp <;> omega), rfl⟩
  by_cases d : x ≤ 122
  · have e : letN x = true := by unfold letN; rw [decide_eq_true_eq]; omega
    rw [e]; clear e
    go_enter Try.func12, Try.ntmps12
    go_wp2
    go_ret
    exact ⟨ret_bool (by simp <;> omega), rfl⟩
  · have e : letN x = false := by unfold letN; rw [decide_eq_false_iff_not]; omega
    rw [e]; clear e
    go_enter Try.func12, Try.ntmps12
    go_wp2
    go_ret
    exact ⟨ret_bool (by simp <;> omega), rfl⟩

theorem sum_le (l : List ByteArray) (k : Nat) : ((l.take k).map ByteArray.size).sum ≤ (l.map ByteArray.size).sum := by
  conv => rhs; rw [← List.take_append_drop k l, List.map_append, List.sum_append]
  omega
set_option maxHeartbeats 800000 in
set_option maxRecDepth 100000 in
theorem size_any (l : List ByteArray) (g cap : Nat) (w : World) (hl : l.length ≤ 1000) (hs : (l.map ByteArray.size).sum ≤ 1000000000000) (hc : ∀ j x, l[j]? = some x → w.cell? ⟨g, j, none⟩ = some (.string x)) :
    Calls Try.prog 11 #[.slice (some ⟨g, 0, none⟩) l.length cap] w fun e w' => e = .returned (.int .i64 ((l.length : Int) + ((l.map ByteArray.size).sum : Nat))) ∧ w' = w := by
  have HC := Lib.hid hc
  clear hc
  go_enter Try.func11, Try.ntmps11
  go_wp2
  go_loopg [3, 10] (l.length + 1) (fun gk n i wr => ∃ k : Nat, k ≤ l.length ∧ n = .int .i64 ((l.length : Int) + (((l.take k).map ByteArray.size).sum : Nat)) ∧ i = .int .i64 k ∧ l.length - k < gk ∧ wr = w)
  case atStart => exact ⟨0, by omega, by simp, rfl, by omega, rfl⟩
  case round =>
    obtain ⟨k, hk, rfl, rfl, hg, rfl⟩ := hrel
    by_cases hkl : k < l.length
    · obtain ⟨x, hx⟩ : ∃ x, l[k]? = some x := ⟨l[k], List.getElem?_eq_getElem hkl⟩
      have hck := HC.out k x hx
      have hn : ((l.take (k + 1)).map ByteArray.size).sum = ((l.take k).map ByteArray.size).sum + x.size := by rw [List.take_add_one, hx, List.map_append, List.sum_append]; simp
      have hle := sum_le l (k + 1)
      rw [hn] at hle
      have HN := Lib.hid hn
      obtain ⟨gk, rfl⟩ : ∃ m, gk = m + 1 := ⟨gk - 1, by omega⟩
      clear hx hn
      generalize ((l.take k).map ByteArray.size).sum = q at *
      obtain ⟨z, hz⟩ : ∃ z, x.size = z := ⟨_, rfl⟩
      have hz1 : x.size ≤ z := by omega
      have hz2 : z ≤ x.size := by omega
      clear hz
      go_wp2
      go_roundg gk
      case rel => exact ⟨k + 1, by omega, by rw [HN.out]; go_num, by go_num, by omega, rfl⟩
      case measure => omega
    · obtain rfl : k = l.length := by omega
      go_wp2
      go_ret
      exact ⟨by rw [List.take_length]; rfl, rfl⟩

def simB (l : List UInt8) : Bool := l.all (fun b => letN b.toNat || decide (48 ≤ b.toNat ∧ b.toNat ≤ 57)) && decide (0 < l.length)
def mrkB (l : List UInt8) : Bool := l.all (fun b => !(letN b.toNat || decide (48 ≤ b.toNat ∧ b.toNat ≤ 57) || decide (128 ≤ b.toNat)))
set_option maxHeartbeats 800000 in
set_option maxRecDepth 100000 in
theorem simple_any (l : List UInt8) (w : World) (hl : l.length ≤ 2147483647) :
    Calls Try.prog 7 #[.string (txt l)] w fun e w' => e = .returned (.bool (simB l)) ∧ w' = w := by
  have hll := txt_size l
  go_enter Try.func7, Try.ntmps7
  go_wp2
  go_loopg [3] (l.length + 1) (fun gk i wr => ∃ k : Nat, k ≤ l.length ∧ i = .int .i64 k ∧ Hid ((l.take k).all (fun b => letN b.toNat || decide (48 ≤ b.toNat ∧ b.toNat ≤ 57)) = true) ∧ l.length - k < gk ∧ wr = w)
  case atStart => exact ⟨0, by omega, rfl, rfl, by omega, rfl⟩
  case round =>
    obtain ⟨k, hk, rfl, hall, hg, rfl⟩ := hrel
    by_cases hkl : k < l.length
    · obtain ⟨b, hbk⟩ : ∃ b, l[k]? = some b := ⟨l[k], List.getElem?_eq_getElem hkl⟩
      have hix := run_byte l k b hbk
      have HB := Lib.hid hbk
      clear hbk
      obtain ⟨gk, rfl⟩ : ∃ m, gk = m + 1 := ⟨gk - 1, by omega⟩
      have hb256 := b.toNat_lt
      obtain ⟨x, hx⟩ : ∃ x, b.toNat = x := ⟨_, rfl⟩
      rw [hx] at hix hb256
      have HX := Lib.hid hx
      clear hx
      obtain ⟨lt, hlet⟩ : ∃ q, letN x = q := ⟨_, rfl⟩
      have cL := Lib.hid fun W => hlet ▸ letter_any x W (by omega)
      have HLT := Lib.hid hlet
      clear hlet
      cases lt with
      | true =>
        go_wp2_with (go_at_call 12; refine (cL.out _).mono ?_; rintro e wr ⟨rfl, rfl⟩)
        go_roundg gk
        case rel =>
          refine ⟨k + 1, by omega, by go_num, ?_, by omega, rfl⟩
          show _ = _
          rw [List.take_add_one, HB.out, List.all_append, hall.out]
          simp [HX.out, HLT.out]
        case measure => omega
      | false =>
        by_cases c0 : x < 48
        · go_wp2_with (go_at_call 12; refine (cL.out _).mono ?_; rintro e wr ⟨rfl, rfl⟩)
          go_ret
          have hm : b ∈ l := List.mem_of_getElem? HB.out
          have hf : l.all (fun b => letN b.toNat || decide (48 ≤ b.toNat ∧ b.toNat ≤ 57)) = false := by
            rw [List.all_eq_false]
            exact ⟨b, hm, by simp [HX.out, HLT.out]; omega⟩
          exact ⟨by unfold simB; rw [hf]; rfl, rfl⟩
        by_cases c1 : x ≤ 57
        · go_wp2_with (go_at_call 12; refine (cL.out _).mono ?_; rintro e wr ⟨rfl, rfl⟩)
          go_roundg gk
          case rel =>
            refine ⟨k + 1, by omega, by go_num, ?_, by omega, rfl⟩
            show _ = _
            rw [List.take_add_one, HB.out, List.all_append, hall.out]
            simp [HX.out, HLT.out]; omega
          case measure => omega
        · go_wp2_with (go_at_call 12; refine (cL.out _).mono ?_; rintro e wr ⟨rfl, rfl⟩)
          go_ret
          have hm : b ∈ l := List.mem_of_getElem? HB.out
          have hf : l.all (fun b => letN b.toNat || decide (48 ≤ b.toNat ∧ b.toNat ≤ 57)) = false := by
            rw [List.all_eq_false]
            exact ⟨b, hm, by simp [HX.out, HLT.out]; omega⟩
          exact ⟨by unfold simB; rw [hf]; rfl, rfl⟩
    · obtain rfl : k = l.length := by omega
      have e := hall.out
      rw [List.take_length] at e
      by_cases h0 : 0 < l.length
      · have e2 : simB l = true := by unfold simB; rw [e, decide_eq_true h0]; rfl
        go_wp2
        go_ret
        exact ⟨ret_bool e2.symm, rfl⟩
      · have e2 : simB l = false := by unfold simB; rw [decide_eq_false h0, Bool.and_false]
        go_wp2
        go_ret
        exact ⟨ret_bool e2.symm, rfl⟩
set_option maxHeartbeats 800000 in
set_option maxRecDepth 100000 in
theorem marks_any (l : List UInt8) (w : World) (hl : l.length ≤ 2147483647) :
    Calls Try.prog 8 #[.string (txt l)] w fun e w' => e = .returned (.bool (mrkB l)) ∧ w' = w := by
  have hll := txt_size l
  go_enter Try.func8, Try.ntmps8
  go_wp2
  go_loopg [3] (l.length + 1) (fun gk i wr => ∃ k : Nat, k ≤ l.length ∧ i = .int .i64 k ∧ Hid ((l.take k).all (fun b => !(letN b.toNat || decide (48 ≤ b.toNat ∧ b.toNat ≤ 57) || decide (128 ≤ b.toNat))) = true) ∧ l.length - k < gk ∧ wr = w)
  case atStart => exact ⟨0, by omega, rfl, rfl, by omega, rfl⟩
  case round =>
    obtain ⟨k, hk, rfl, hall, hg, rfl⟩ := hrel
    by_cases hkl : k < l.length
    · obtain ⟨b, hbk⟩ : ∃ b, l[k]? = some b := ⟨l[k], List.getElem?_eq_getElem hkl⟩
      have hix := run_byte l k b hbk
      have HB := Lib.hid hbk
      clear hbk
      obtain ⟨gk, rfl⟩ : ∃ m, gk = m + 1 := ⟨gk - 1, by omega⟩
      have hb256 := b.toNat_lt
      obtain ⟨x, hx⟩ : ∃ x, b.toNat = x := ⟨_, rfl⟩
      rw [hx] at hix hb256
      have HX := Lib.hid hx
      clear hx
      obtain ⟨lt, hlet⟩ : ∃ q, letN x = q := ⟨_, rfl⟩
      have cL := Lib.hid fun W => hlet ▸ letter_any x W (by omega)
      have HLT := Lib.hid hlet
      clear hlet
      cases lt with
      | true =>
        go_wp2_with (go_at_call 12; refine (cL.out _).mono ?_; rintro e wr ⟨rfl, rfl⟩)
        go_ret
        have hm : b ∈ l := List.mem_of_getElem? HB.out
        have hf : l.all (fun b => !(letN b.toNat || decide (48 ≤ b.toNat ∧ b.toNat ≤ 57) || decide (128 ≤ b.toNat))) = false := by
          rw [List.all_eq_false]
          exact ⟨b, hm, by simp [HX.out, HLT.out]⟩
        exact ⟨by unfold mrkB; rw [hf]; rfl, rfl⟩
      | false =>
        by_cases c0 : x < 48
        · go_wp2_with (go_at_call 12; refine (cL.out _).mono ?_; rintro e wr ⟨rfl, rfl⟩)
          go_roundg gk
          case rel =>
            refine ⟨k + 1, by omega, by go_num, ?_, by omega, rfl⟩
            show _ = _
            rw [List.take_add_one, HB.out, List.all_append, hall.out]
            simp [HX.out, HLT.out]; omega
          case measure => omega
        by_cases c1 : x ≤ 57
        · go_wp2_with (go_at_call 12; refine (cL.out _).mono ?_; rintro e wr ⟨rfl, rfl⟩)
          go_ret
          have hm : b ∈ l := List.mem_of_getElem? HB.out
          have hf : l.all (fun b => !(letN b.toNat || decide (48 ≤ b.toNat ∧ b.toNat ≤ 57) || decide (128 ≤ b.toNat))) = false := by
            rw [List.all_eq_false]
            exact ⟨b, hm, by simp [HX.out, HLT.out]; omega⟩
          exact ⟨by unfold mrkB; rw [hf]; rfl, rfl⟩
        by_cases c2 : x < 128
        · go_wp2_with (go_at_call 12; refine (cL.out _).mono ?_; rintro e wr ⟨rfl, rfl⟩)
          go_roundg gk
          case rel =>
            refine ⟨k + 1, by omega, by go_num, ?_, by omega, rfl⟩
            show _ = _
            rw [List.take_add_one, HB.out, List.all_append, hall.out]
            simp [HX.out, HLT.out]; omega
          case measure => omega
        · go_wp2_with (go_at_call 12; refine (cL.out _).mono ?_; rintro e wr ⟨rfl, rfl⟩)
          go_ret
          have hm : b ∈ l := List.mem_of_getElem? HB.out
          have hf : l.all (fun b => !(letN b.toNat || decide (48 ≤ b.toNat ∧ b.toNat ≤ 57) || decide (128 ≤ b.toNat))) = false := by
            rw [List.all_eq_false]
            exact ⟨b, hm, by simp [HX.out, HLT.out]; omega⟩
          exact ⟨by unfold mrkB; rw [hf]; rfl, rfl⟩
    · obtain rfl : k = l.length := by omega
      have e := hall.out
      rw [List.take_length] at e
      go_wp2
      go_ret
      exact ⟨by unfold mrkB; rw [e]; rfl, rfl⟩

end Go.Proofs.Ytngehfjcfiehlaa
