/- The law FnWordsAssigned: which assignments are told apart. -/
import Derived.Test.YthekblmkcfkboaaDoorWPwe
namespace Go.Proofs.YthekblmkcfkboaaDoor
open Go.RowKit U8
open Go.Lib hiding intOf

theorem slice_oneA (x : List UInt8) (j : Nat) (b : UInt8) (hb : x[j]? = some b) (W : World) : (Instr.slice 9 (.string (txt x)) (some (.int .i64 j)) (some (.int .i64 (j + 1))) none).run Tryd.prog W = .ok (.string (txt [b])) W := by
  have hjl : j < x.length := (List.getElem?_eq_some_iff.1 hb).1
  have hts := txt_size x
  have hex : (txt x).extract j (j + 1) = txt [b] := by
    have hdj := List.drop_eq_getElem_cons hjl
    have e := (List.getElem?_eq_some_iff.1 hb).2
    rw [txt_extract, List.drop_take, hdj, e]
    simp
  have e2 : ((j : Int) + 1).toNat = j + 1 := by omega
  have e3 : ((j + 1 : Nat) : Int) = (j : Int) + 1 := by omega
  simp [Instr.slice, run_underlying Tryd.underlying9, Instr.sliceBounds, run_sliceBound, (by omega : (0 : Int) ≤ j), (by omega : (0 : Int) ≤ (j : Int) + 1), e2, hts, (by omega : (j : Int) + 1 ≤ (x.length : Int)), (by omega : (j : Int) ≤ (j : Int) + 1), hex]
def letterB (c : UInt8) : Bool := decide ((97 ≤ c.toNat ∧ c.toNat ≤ 122) ∨ (65 ≤ c.toNat ∧ c.toNat ≤ 90))
def simB (c : UInt8) : Bool := letterB c || decide (48 ≤ c.toNat ∧ c.toNat ≤ 57)
def simpleB (x : List UInt8) : Bool := x.all simB && !x.isEmpty
set_option maxHeartbeats 1600000 in
theorem letter_any (c : UInt8) (w : World) : Calls Tryd.prog 20 #[.int .u8 c.toNat] w fun e w' => e = .returned (.bool (letterB c)) ∧ w' = w := by
  obtain ⟨S, hS⟩ : ∃ S, letterB c = S := ⟨_, rfl⟩
  rw [hS]
  have HS := Lib.hid hS.symm
  have hc8 := c.toNat_lt
  clear hS
  rcases (show (c.toNat : Int) > 122 ∨ ((97 : Int) ≤ c.toNat ∧ (c.toNat : Int) ≤ 122) ∨ ((c.toNat : Int) < 97 ∧ (c.toNat : Int) > 90) ∨ ((65 : Int) ≤ c.toNat ∧ (c.toNat : Int) ≤ 90) ∨ (c.toNat : Int) < 65 by omega) with h | ⟨h, h'⟩ | ⟨h, h'⟩ | ⟨h, h'⟩ | h
  · have HF : Hid (S = false) := by show _ = _; rw [HS.out]; unfold letterB; exact decide_eq_false (by omega)
    have f1 : (97 : Int) ≤ c.toNat := by omega
    have f2 : ¬ (c.toNat : Int) ≤ 122 := by omega
    have f3 : (65 : Int) ≤ c.toNat := by omega
    have f4 : ¬ (c.toNat : Int) ≤ 90 := by omega
    clear h
    go_enter Tryd.func20, Tryd.ntmps20
    go_wp2
    go_ret
    exact ⟨by rw [HF.out]; rfl, rfl⟩
  · have HF : Hid (S = true) := by show _ = _; rw [HS.out]; unfold letterB; exact decide_eq_true (by omega)
    go_enter Tryd.func20, Tryd.ntmps20
    go_wp2
    go_ret
    exact ⟨by rw [HF.out]; rfl, rfl⟩
  · have HF : Hid (S = false) := by show _ = _; rw [HS.out]; unfold letterB; exact decide_eq_false (by omega)
    have f1 : ¬ (97 : Int) ≤ c.toNat := by omega
    have f3 : (65 : Int) ≤ c.toNat := by omega
    have f4 : ¬ (c.toNat : Int) ≤ 90 := by omega
    clear h h'
    go_enter Tryd.func20, Tryd.ntmps20
    go_wp2
    go_ret
    exact ⟨by rw [HF.out]; rfl, rfl⟩
  · have HF : Hid (S = true) := by show _ = _; rw [HS.out]; unfold letterB; exact decide_eq_true (by omega)
    have f1 : ¬ (97 : Int) ≤ c.toNat := by omega
    go_enter Tryd.func20, Tryd.ntmps20
    go_wp2
    go_ret
    exact ⟨by rw [HF.out]; rfl, rfl⟩
  · have HF : Hid (S = false) := by show _ = _; rw [HS.out]; unfold letterB; exact decide_eq_false (by omega)
    have f1 : ¬ (97 : Int) ≤ c.toNat := by omega
    have f3 : ¬ (65 : Int) ≤ c.toNat := by omega
    clear h
    go_enter Tryd.func20, Tryd.ntmps20
    go_wp2
    go_ret
    exact ⟨by rw [HF.out]; rfl, rfl⟩
set_option maxHeartbeats 1600000 in
theorem simple_any (x : List UInt8) (w : World) (hx : x.length ≤ 1000000) : Calls Tryd.prog 19 #[.string (txt x)] w fun e w' => e = .returned (.bool (simpleB x)) ∧ w' = w := by
  obtain ⟨S, hS⟩ : ∃ S, simpleB x = S := ⟨_, rfl⟩
  have hS2 : S = (x.all simB && !x.isEmpty) := hS.symm
  rw [hS]
  have HS := Lib.hid hS2
  have hts := txt_size x
  have CL := Lib.hid fun c => letter_any c w
  clear hS hS2
  go_enter Tryd.func19, Tryd.ntmps19
  go_wp2
  go_loopg [3] (x.length + 1) (fun gk v3 wr => ∃ j : Nat, v3 = .int .i64 j ∧ j ≤ x.length ∧ x.length - j < gk ∧ Hid (S = ((x.drop j).all simB && !x.isEmpty)) ∧ wr = w)
  case atStart => exact ⟨0, rfl, by omega, by omega, HS.out, rfl⟩
  case round =>
    obtain ⟨j, rfl, hj, hg, HJ, hwr⟩ := hrel
    obtain rfl := hwr.symm
    by_cases hlt : j < x.length
    · obtain ⟨gk, rfl⟩ : ∃ m, gk = m + 1 := ⟨gk - 1, by omega⟩
      have hb := List.getElem?_eq_getElem hlt
      have hd := List.drop_eq_getElem_cons hlt
      generalize x[j] = c at hb hd
      have hby := run_byte x j c hb w
      have hc8 := c.toNat_lt
      have HJ2 : Hid (S = ((simB c && (x.drop (j + 1)).all simB) && !x.isEmpty)) := by show _ = _; rw [HJ.out, hd]; rfl
      clear hb hd HJ
      go_wp2_with fail
      refine (CL.out c).mono ?_
      rintro e wx ⟨rfl, hwx⟩
      obtain rfl := hwx.symm
      cases hlb : letterB c with
      | true =>
        have HF : Hid (S = ((x.drop (j + 1)).all simB && !x.isEmpty)) := by show _ = _; rw [HJ2.out]; unfold simB; rw [hlb]; rfl
        clear HJ2 hlb
        go_wp2
        go_roundg gk
        case rel => exact ⟨j + 1, by go_num, by omega, by omega, HF.out, rfl⟩
        case measure => omega
      | false =>
        by_cases h1 : (c.toNat : Int) < 48
        · have HF : Hid (S = false) := by show _ = _; rw [HJ2.out]; unfold simB; rw [hlb, decide_eq_false (by omega)]; rfl
          clear HJ2 hlb
          go_wp2
          go_ret
          exact ⟨by rw [HF.out]; rfl, rfl⟩
        by_cases h2 : (57 : Int) < c.toNat
        · have HF : Hid (S = false) := by show _ = _; rw [HJ2.out]; unfold simB; rw [hlb, decide_eq_false (by omega)]; rfl
          clear HJ2 hlb
          go_wp2
          go_ret
          exact ⟨by rw [HF.out]; rfl, rfl⟩
        have HF : Hid (S = ((x.drop (j + 1)).all simB && !x.isEmpty)) := by show _ = _; rw [HJ2.out]; unfold simB; rw [hlb, decide_eq_true (by omega)]; rfl
        clear HJ2 hlb
        go_wp2
        go_roundg gk
        case rel => exact ⟨j + 1, by go_num, by omega, by omega, HF.out, rfl⟩
        case measure => omega
    · have HF : Hid (S = !x.isEmpty) := by show _ = _; rw [HJ.out, List.drop_eq_nil_of_le (by omega)]; rfl
      clear HJ
      by_cases hx0 : x = []
      · subst hx0
        go_wp2
        go_ret
        exact ⟨by rw [HF.out]; rfl, rfl⟩
      · have HF2 : Hid (S = true) := by show _ = _; rw [HF.out]; cases x; exact absurd rfl hx0; rfl
        have hl0 : (0 : Int) < x.length := by have := List.length_pos_iff.2 hx0; omega
        clear HF hx0
        go_wp2
        go_ret
        exact ⟨by rw [HF2.out]; exact ret_bool (decide_eq_true (by omega)), rfl⟩
set_option maxHeartbeats 1600000 in
theorem at_any (x : List UInt8) (w : World) (hx : x.length ≤ 1000000) : Calls Tryd.prog 22 #[.string (txt x), .string (txt [61]), .int .i64 0] w fun e w' => e = .returned (.int .i64 (ixE x)) ∧ w' = w := by
  obtain ⟨S, hS⟩ : ∃ S, ixE x = S := ⟨_, rfl⟩
  rw [hS]
  have hts := txt_size x
  have ht1 := txt_size [61]
  rw [List.length_singleton] at ht1
  have hS0 : S = if Lib.indexByte (x.drop 0) 61 = -1 then -1 else Lib.indexByte (x.drop 0) 61 + (0 : Nat) := by
    rw [← hS, List.drop_zero]
    unfold ixE
    split
    · assumption
    · omega
  have HS := Lib.hid hS0
  clear hS hS0
  go_enter Tryd.func22, Tryd.ntmps22
  go_wp2
  go_loopg [7] (x.length + 1) (fun gk v7 wr => ∃ j : Nat, v7 = .int .i64 j ∧ j ≤ x.length ∧ x.length - j < gk ∧ Hid (S = if Lib.indexByte (x.drop j) 61 = -1 then -1 else Lib.indexByte (x.drop j) 61 + (j : Nat)) ∧ wr = w)
  case atStart => exact ⟨0, rfl, by omega, by omega, HS.out, rfl⟩
  case round =>
    obtain ⟨j, rfl, hj, hg, HJ, hwr⟩ := hrel
    obtain rfl := hwr.symm
    by_cases hlt : j < x.length
    · obtain ⟨gk, rfl⟩ : ∃ m, gk = m + 1 := ⟨gk - 1, by omega⟩
      have hb := List.getElem?_eq_getElem hlt
      have hd := List.drop_eq_getElem_cons hlt
      generalize x[j] = c at hb hd
      have hex := fun W => slice_oneA x j c hb W
      have hix : Lib.indexByte (x.drop j) 61 = if c == 61 then 0 else if Lib.indexByte (x.drop (j + 1)) 61 == -1 then -1 else Lib.indexByte (x.drop (j + 1)) 61 + 1 := by rw [hd]; rfl
      have hge := Lib.indexByte_ge (x.drop (j + 1)) 61
      have HX := Lib.hid hix
      have HG := Lib.hid hge
      clear hb hd hix hge
      by_cases hc : c = 61
      · subst hc
        have HF : Hid (S = j) := by show _ = _; rw [HJ.out, HX.out]; simp
        have he : ((txt [61]).toList == (txt [61]).toList) = true := by simp
        clear HJ HX HG
        go_wp2
        go_ret
        exact ⟨by rw [HF.out]; rfl, rfl⟩
      · have HF : Hid (S = if Lib.indexByte (x.drop (j + 1)) 61 = -1 then -1 else Lib.indexByte (x.drop (j + 1)) 61 + ((j + 1 : Nat) : Int)) := by
          show _ = _
          rw [HJ.out, HX.out, beq_eq_false_iff_ne.2 hc]
          have := HG.out
          by_cases hm : Lib.indexByte (x.drop (j + 1)) 61 = -1
          · simp [hm]
          · simp [hm]
            rw [if_neg (by omega)]
            omega
        have he : ((txt [c]).toList == (txt [61]).toList) = false := by rw [txt_toList, txt_toList]; exact beq_eq_false_iff_ne.2 (fun h => hc (by simpa using h))
        clear HJ HX HG hc
        go_wp2
        go_roundg gk
        case rel => exact ⟨j + 1, by go_num, by omega, by omega, HF.out, rfl⟩
        case measure => omega
    · have HF : Hid (S = -1) := by
        show _ = _
        rw [HJ.out, List.drop_eq_nil_of_le (by omega)]
        rfl
      clear HJ
      go_wp2
      go_ret
      exact ⟨by rw [HF.out]; rfl, rfl⟩

end Go.Proofs.YthekblmkcfkboaaDoor
