/- The contracts of the reference's small functions on bytes, of its 'stripped' and of its ToCamel. -/
import Derived.Test.YtplillcmgahapaaDoorCRoads
namespace Go.Proofs.YtplillcmgahapaaDoor
open Go.RowKit U8
open Go.Lib hiding intOf

theorem slower_is (x : Nat) (B : Bool) (w : World) (hx : x < 256) (hB : decide (97 ≤ x ∧ x ≤ 122) = B) :
    Calls Tryd.prog 38 #[.int .u8 x] w fun e w' => e = .returned (.bool B) ∧ w' = w := by
  subst hB
  rcases (show x < 97 ∨ (97 ≤ x ∧ x ≤ 122) ∨ 122 < x by omega) with h | h | h
  all_goals
    go_enter Tryd.func38, Tryd.ntmps38
    go_wp2
    go_ret
    refine ⟨ret_bool ?_, rfl⟩
    first
      | exact (decide_eq_true (by omega)).symm
      | exact (decide_eq_false (by omega)).symm
      | exact decide_eq_decide.2 (by omega)
      | (rw [Bool.eq_iff_iff]; simp only [Bool.and_eq_true, decide_eq_true_eq, Bool.false_eq_true, false_iff]; omega)
theorem supper_is (x : Nat) (B : Bool) (w : World) (hx : x < 256) (hB : decide (65 ≤ x ∧ x ≤ 90) = B) :
    Calls Tryd.prog 39 #[.int .u8 x] w fun e w' => e = .returned (.bool B) ∧ w' = w := by
  subst hB
  rcases (show x < 65 ∨ (65 ≤ x ∧ x ≤ 90) ∨ 90 < x by omega) with h | h | h
  all_goals
    go_enter Tryd.func39, Tryd.ntmps39
    go_wp2
    go_ret
    refine ⟨ret_bool ?_, rfl⟩
    first
      | exact (decide_eq_true (by omega)).symm
      | exact (decide_eq_false (by omega)).symm
      | exact decide_eq_decide.2 (by omega)
      | (rw [Bool.eq_iff_iff]; simp only [Bool.and_eq_true, decide_eq_true_eq, Bool.false_eq_true, false_iff]; omega)
theorem sdigit_is (x : Nat) (B : Bool) (w : World) (hx : x < 256) (hB : decide (48 ≤ x ∧ x ≤ 57) = B) :
    Calls Tryd.prog 40 #[.int .u8 x] w fun e w' => e = .returned (.bool B) ∧ w' = w := by
  subst hB
  rcases (show x < 48 ∨ (48 ≤ x ∧ x ≤ 57) ∨ 57 < x by omega) with h | h | h
  all_goals
    go_enter Tryd.func40, Tryd.ntmps40
    go_wp2
    go_ret
    refine ⟨ret_bool ?_, rfl⟩
    first
      | exact (decide_eq_true (by omega)).symm
      | exact (decide_eq_false (by omega)).symm
      | exact decide_eq_decide.2 (by omega)
      | (rw [Bool.eq_iff_iff]; simp only [Bool.and_eq_true, decide_eq_true_eq, Bool.false_eq_true, false_iff]; omega)
theorem sparts_is (x : Nat) (B : Bool) (w : World) (hx : x < 256) (hB : decide (x = 32 ∨ x = 95 ∨ x = 45 ∨ x = 46) = B) :
    Calls Tryd.prog 42 #[.int .u8 x] w fun e w' => e = .returned (.bool B) ∧ w' = w := by
  subst hB
  rcases (show x = 32 ∨ x = 95 ∨ x = 45 ∨ x = 46 ∨ ¬ (x = 32 ∨ x = 95 ∨ x = 45 ∨ x = 46) by omega) with rfl | rfl | rfl | rfl | h
  · go_enter Tryd.func42, Tryd.ntmps42
    go_wp2
    go_ret
    exact ⟨rfl, rfl⟩
  · go_enter Tryd.func42, Tryd.ntmps42
    go_wp2
    go_ret
    exact ⟨rfl, rfl⟩
  · go_enter Tryd.func42, Tryd.ntmps42
    go_wp2
    go_ret
    exact ⟨rfl, rfl⟩
  · go_enter Tryd.func42, Tryd.ntmps42
    go_wp2
    go_ret
    exact ⟨rfl, rfl⟩
  · have n1 : ((x : Int) == 32) = false := by simp; omega
    have n2 : ((x : Int) == 95) = false := by simp; omega
    have n3 : ((x : Int) == 45) = false := by simp; omega
    have n4 : ((x : Int) == 46) = false := by simp; omega
    have hd := decide_eq_false h
    clear h
    rw [hd]
    clear hd
    go_enter Tryd.func42, Tryd.ntmps42
    go_wp2
    go_ret
    exact ⟨rfl, rfl⟩

theorem turn_any (b : UInt8) (g : Bool) (w : World) :
    Calls Tryd.prog 41 #[.int .u8 b.toNat, .bool g] w fun e w' => e = .returned (.int .u8 (turn g b).toNat) ∧ w' = w := by
  have hb := b.toNat_lt
  have hn : (turn g b).toNat = if g then (if 97 ≤ b.toNat ∧ b.toNat ≤ 122 then b.toNat - 32 else b.toNat) else (if 65 ≤ b.toNat ∧ b.toNat ≤ 90 then b.toNat + 32 else b.toNat) := by
    unfold turn
    cases g
    · exact toLo_nat b
    · exact toUp_nat b
  obtain ⟨x, hx⟩ : ∃ x, b.toNat = x := ⟨_, rfl⟩
  rw [hx] at hn hb ⊢
  obtain ⟨y, hy⟩ : ∃ y, (turn g b).toNat = y := ⟨_, rfl⟩
  rw [hy] at hn ⊢
  have HN := Lib.hid hn
  clear hn hx hy
  have cL := Lib.hid fun W => slower_is x (decide (97 ≤ x ∧ x ≤ 122)) W (by omega) rfl
  have cU := Lib.hid fun W => supper_is x (decide (65 ≤ x ∧ x ≤ 90)) W (by omega) rfl
  cases g
  · by_cases h : 65 ≤ x ∧ x ≤ 90
    · rw [decide_eq_true h] at cU
      go_enter Tryd.func41, Tryd.ntmps41
      go_wp2_with (go_at_call 39; refine (cU.out _).mono ?_; rintro e w1 ⟨rfl, rfl⟩)
      go_ret
      exact ⟨by rw [HN.out, if_neg (by decide), if_pos h]; rfl, rfl⟩
    · rw [decide_eq_false h] at cU
      go_enter Tryd.func41, Tryd.ntmps41
      go_wp2_with (go_at_call 39; refine (cU.out _).mono ?_; rintro e w1 ⟨rfl, rfl⟩)
      go_ret
      exact ⟨by rw [HN.out, if_neg (by decide), if_neg h]; rfl, rfl⟩
  · by_cases h : 97 ≤ x ∧ x ≤ 122
    · rw [decide_eq_true h] at cL
      go_enter Tryd.func41, Tryd.ntmps41
      go_wp2_with (go_at_call 38; refine (cL.out _).mono ?_; rintro e w1 ⟨rfl, rfl⟩)
      go_ret
      exact ⟨by rw [HN.out, if_pos trivial, if_pos h]; show _ = Ending.returned (Value.int .u8 ((x - 32 : Nat) : Int)); rw [show ((x - 32 : Nat) : Int) = (x : Int) - 32 by omega]; rfl, rfl⟩
    · rw [decide_eq_false h] at cL
      go_enter Tryd.func41, Tryd.ntmps41
      go_wp2_with (go_at_call 38; refine (cL.out _).mono ?_; rintro e w1 ⟨rfl, rfl⟩)
      go_ret
      exact ⟨by rw [HN.out, if_pos trivial, if_neg h]; rfl, rfl⟩

theorem isSp_nat (b : UInt8) : isSp b = decide (b.toNat = 32 ∨ (9 ≤ b.toNat ∧ b.toNat ≤ 13)) := by
  unfold isSp
  rw [Bool.eq_iff_iff]
  simp only [Bool.or_eq_true, beq_iff_eq, decide_eq_true_eq]
  constructor
  · rintro (((((rfl | rfl) | rfl) | rfl) | rfl) | rfl) <;> decide
  · intro h
    have h2 : b.toNat = 9 ∨ b.toNat = 10 ∨ b.toNat = 11 ∨ b.toNat = 12 ∨ b.toNat = 13 ∨ b.toNat = 32 := by omega
    rcases h2 with h | h | h | h | h | h
    · obtain rfl : b = 9 := UInt8.toNat_inj.1 h
      decide
    · obtain rfl : b = 10 := UInt8.toNat_inj.1 h
      decide
    · obtain rfl : b = 11 := UInt8.toNat_inj.1 h
      decide
    · obtain rfl : b = 12 := UInt8.toNat_inj.1 h
      decide
    · obtain rfl : b = 13 := UInt8.toNat_inj.1 h
      decide
    · obtain rfl : b = 32 := UInt8.toNat_inj.1 h
      decide

set_option maxHeartbeats 3200000 in
set_option maxRecDepth 100000 in
theorem strip_asc (l : List UInt8) (w : World) (hl : l.length ≤ 1000000) (ha : ∀ b ∈ l, b.toNat < 128) :
    Calls Tryd.prog 37 #[.string (txt l)] w fun e w' => e = .returned (.tuple #[.string (txt (trimSpace l)), .int .i64 1]) ∧ w' = w := by
  have hll := txt_size l
  have HA := Lib.hid ha
  obtain ⟨T, hT⟩ : ∃ T, trimSpace l = T := ⟨_, rfl⟩
  rw [hT]
  have HT := Lib.hid hT.symm
  clear hT ha
  go_enter Tryd.func37, Tryd.ntmps37
  go_wp2
  go_loopg [7] (l.length + 1) (fun gk i wr => ∃ p rest : List UInt8, Hid (l = p ++ rest) ∧ i = .int .i64 p.length ∧ rest.length < gk ∧ Hid (wr = w))
  case atStart => exact ⟨[], l, rfl, rfl, by omega, rfl⟩
  case round =>
    obtain ⟨p, rest, HP, rfl, hg, HW⟩ := hrel
    have hpl : p.length + rest.length = l.length := by have h := congrArg List.length HP.out; rw [List.length_append] at h; omega
    cases rest with
    | cons b rest =>
      rw [List.length_cons] at hpl hg
      have hix := run_byte l p.length b (by rw [HP.out, List.getElem?_append_right (Nat.le_refl _), Nat.sub_self]; rfl)
      have hb := HA.out b (by rw [HP.out]; simp)
      have HT2 : Hid (l = (p ++ [b]) ++ rest) := by show _ = _; rw [HP.out]; simp
      obtain ⟨x, hx⟩ : ∃ x, b.toNat = x := ⟨_, rfl⟩
      rw [hx] at hix hb
      obtain ⟨gk, rfl⟩ : ∃ m, gk = m + 1 := ⟨gk - 1, by omega⟩
      clear hx
      go_wp2
      go_roundg gk
      case rel => exact ⟨p ++ [b], rest, HT2.out, by rw [List.length_append]; go_num, by omega, HW.out⟩
      case measure => omega
    | nil =>
      rw [List.length_nil] at hpl
      have hpe : p = l := by have e := HP.out; rw [List.append_nil] at e; exact e.symm
      subst hpe
      clear hpl
      go_wp2
      go_loopg [0] (p.length + 1) (fun gk s wr => ∃ rest : List UInt8, s = .string (txt rest) ∧ rest.length ≤ p.length ∧ rest.length < gk ∧ Hid (T = trimSpace rest) ∧ Hid (∀ b ∈ rest, b.toNat < 128) ∧ Hid (wr = w))
      case atStart => exact ⟨p, rfl, by omega, by omega, HT.out, HA.out, HW.out⟩
      case round =>
        obtain ⟨rest, rfl, hrl, hg, HQ2, HA2, HW⟩ := hrel
        cases rest with
        | nil =>
          have h0 : (txt ([] : List UInt8)).size ≤ 0 := Nat.le_refl _
          have hq1 : ([] : List UInt8).length ≤ p.length := Nat.zero_le _
          have hq2 := HQ2.out
          have hq3 := HA2.out
          go_wp2
          go_loopg [0] (p.length + 1) (fun gk s wr => ∃ q : List UInt8, s = .string (txt q) ∧ q.length ≤ p.length ∧ q.length < gk ∧ Hid (T = (q.reverse.dropWhile isSp).reverse) ∧ Hid (∀ b ∈ q, b.toNat < 128) ∧ Hid (wr = w))
          case atStart => exact ⟨[], rfl, hq1, by omega, hq2, hq3, HW.out⟩
          case round =>
            clear hq1 hq2 hq3
            obtain ⟨q, rfl, hql, hg, HQ, HA3, HW⟩ := hrel
            rcases List.eq_nil_or_concat q with rfl | ⟨q, b, rfl⟩
            · have h0 : (txt ([] : List UInt8)).size ≤ 0 := Nat.le_refl _
              go_wp2
              go_ret2
              exact ⟨by rw [HQ.out]; rfl, HW.out⟩
            · rw [List.concat_eq_append] at *
              rw [List.length_append, List.length_singleton] at hql hg
              have hsz : (txt (q ++ [b])).size = q.length + 1 := by rw [txt_size, List.length_append]; rfl
              have hix := run_byte (q ++ [b]) q.length b (by rw [List.getElem?_append_right (Nat.le_refl _), Nat.sub_self]; rfl)
              have hb := HA3.out b (by simp)
              have htk : (txt (q ++ [b])).extract 0 q.length = txt q := txt_take q [b]
              have HI := Lib.hid (isSp_nat b)
              have HA4 : Hid (∀ c ∈ q, c.toNat < 128) := fun c hc => HA3.out c (by simp [hc])
              have HYES : Hid (isSp b = true → T = (q.reverse.dropWhile isSp).reverse) := fun h => by rw [HQ.out, List.reverse_append, List.reverse_singleton, List.singleton_append, List.dropWhile_cons_of_pos h]
              have HNO : Hid (isSp b = false → T = q ++ [b]) := fun h => by rw [HQ.out, List.reverse_append, List.reverse_singleton, List.singleton_append, List.dropWhile_cons_of_neg (by simp [h])]; simp
              obtain ⟨x, hx⟩ : ∃ x, b.toNat = x := ⟨_, rfl⟩
              rw [hx] at hix hb HI
              obtain ⟨gk, rfl⟩ : ∃ m, gk = m + 1 := ⟨gk - 1, by omega⟩
              clear hx
              by_cases h32 : x = 32
              · subst h32
                have hy := Lib.hid (HYES.out (by rw [HI.out]; rfl))
                go_wp2
                go_roundg gk
                case rel => exact ⟨q, rfl, by omega, by omega, hy.out, HA4.out, HW.out⟩
                case measure => omega
              have n32 : ((x : Int) == 32) = false := by simp; omega
              by_cases h9 : 9 ≤ x ∧ x ≤ 13
              · have hy := Lib.hid (HYES.out (by rw [HI.out, decide_eq_true_eq]; omega))
                clear h32
                go_wp2
                go_roundg gk
                case rel => exact ⟨q, rfl, by omega, by omega, hy.out, HA4.out, HW.out⟩
                case measure => omega
              · have hn := HNO.out (by rw [HI.out, decide_eq_false_iff_not]; omega)
                have HN := Lib.hid hn
                clear h32 hn
                rcases (show x < 9 ∨ 13 < x by omega) with h | h <;>
                · clear h9
                  go_wp2
                  go_ret2
                  exact ⟨by rw [HN.out]; rfl, HW.out⟩
        | cons b rest =>
          rw [List.length_cons] at hrl hg
          have hsz : (txt (b :: rest)).size = rest.length + 1 := by rw [txt_size]; rfl
          have hix : ∀ W, (Instr.index 9 (.string (txt (b :: rest))) (.int .i64 0)).run Tryd.prog W = .ok (.int .u8 b.toNat) W := fun W => run_byte (b :: rest) 0 b rfl W
          have hb := HA2.out b (by simp)
          have htk : (txt (b :: rest)).extract 1 (txt (b :: rest)).size = txt rest := txt_skip [b] rest
          rw [hsz] at htk
          have HI := Lib.hid (isSp_nat b)
          have HA4 : Hid (∀ c ∈ rest, c.toNat < 128) := fun c hc => HA2.out c (by simp [hc])
          have HYES : Hid (isSp b = true → T = trimSpace rest) := fun h => by rw [HQ2.out]; unfold trimSpace; rw [List.dropWhile_cons_of_pos h]
          have HNO : Hid (isSp b = false → T = ((b :: rest).reverse.dropWhile isSp).reverse) := fun h => by rw [HQ2.out]; unfold trimSpace; rw [List.dropWhile_cons_of_neg (by simp [h])]
          have hq3 := Lib.hid HA2.out
          obtain ⟨x, hx⟩ : ∃ x, b.toNat = x := ⟨_, rfl⟩
          rw [hx] at hix hb HI
          obtain ⟨gk, rfl⟩ : ∃ m, gk = m + 1 := ⟨gk - 1, by omega⟩
          clear hx
          by_cases h32 : x = 32
          · subst h32
            have hy := Lib.hid (HYES.out (by rw [HI.out]; rfl))
            go_wp2
            go_roundg gk
            case rel => exact ⟨rest, rfl, by omega, by omega, hy.out, HA4.out, HW.out⟩
            case measure => omega
          have n32 : ((x : Int) == 32) = false := by simp; omega
          by_cases h9 : 9 ≤ x ∧ x ≤ 13
          · have hy := Lib.hid (HYES.out (by rw [HI.out, decide_eq_true_eq]; omega))
            clear h32
            go_wp2
            go_roundg gk
            case rel => exact ⟨rest, rfl, by omega, by omega, hy.out, HA4.out, HW.out⟩
            case measure => omega
          · have hq2 := Lib.hid (HNO.out (by rw [HI.out, decide_eq_false_iff_not]; omega))
            have hq1 : (b :: rest).length ≤ p.length := by rw [List.length_cons]; omega
            have hq2 := hq2.out
            have hq3 := hq3.out
            have HQ4 := Lib.hid hq2
            have HQ5 := Lib.hid hq3
            clear h32 hq2 hq3
            rcases (show x < 9 ∨ 13 < x by omega) with h | h <;>
            · clear h9
              go_wp2
              have hq2 := HQ4.out
              have hq3 := HQ5.out
              clear hix htk
              go_loopg [0] (p.length + 1) (fun gk s wr => ∃ q : List UInt8, s = .string (txt q) ∧ q.length ≤ p.length ∧ q.length < gk ∧ Hid (T = (q.reverse.dropWhile isSp).reverse) ∧ Hid (∀ b ∈ q, b.toNat < 128) ∧ Hid (wr = w))
              case atStart => exact ⟨b :: rest, rfl, hq1, by omega, hq2, hq3, HW.out⟩
              case round =>
                clear hq1 hq2 hq3
                obtain ⟨q, rfl, hql, hg, HQ, HA3, HW⟩ := hrel
                rcases List.eq_nil_or_concat q with rfl | ⟨q, b, rfl⟩
                · have h0 : (txt ([] : List UInt8)).size ≤ 0 := Nat.le_refl _
                  go_wp2
                  go_ret2
                  exact ⟨by rw [HQ.out]; rfl, HW.out⟩
                · rw [List.concat_eq_append] at *
                  rw [List.length_append, List.length_singleton] at hql hg
                  have hsz : (txt (q ++ [b])).size = q.length + 1 := by rw [txt_size, List.length_append]; rfl
                  have hix := run_byte (q ++ [b]) q.length b (by rw [List.getElem?_append_right (Nat.le_refl _), Nat.sub_self]; rfl)
                  have hb := HA3.out b (by simp)
                  have htk : (txt (q ++ [b])).extract 0 q.length = txt q := txt_take q [b]
                  have HI := Lib.hid (isSp_nat b)
                  have HA4 : Hid (∀ c ∈ q, c.toNat < 128) := fun c hc => HA3.out c (by simp [hc])
                  have HYES : Hid (isSp b = true → T = (q.reverse.dropWhile isSp).reverse) := fun h => by rw [HQ.out, List.reverse_append, List.reverse_singleton, List.singleton_append, List.dropWhile_cons_of_pos h]
                  have HNO : Hid (isSp b = false → T = q ++ [b]) := fun h => by rw [HQ.out, List.reverse_append, List.reverse_singleton, List.singleton_append, List.dropWhile_cons_of_neg (by simp [h])]; simp
                  obtain ⟨x, hx⟩ : ∃ x, b.toNat = x := ⟨_, rfl⟩
                  rw [hx] at hix hb HI
                  obtain ⟨gk, rfl⟩ : ∃ m, gk = m + 1 := ⟨gk - 1, by omega⟩
                  clear hx
                  by_cases h32 : x = 32
                  · subst h32
                    have hy := Lib.hid (HYES.out (by rw [HI.out]; rfl))
                    go_wp2
                    go_roundg gk
                    case rel => exact ⟨q, rfl, by omega, by omega, hy.out, HA4.out, HW.out⟩
                    case measure => omega
                  have n32 : ((x : Int) == 32) = false := by simp; omega
                  by_cases h9 : 9 ≤ x ∧ x ≤ 13
                  · have hy := Lib.hid (HYES.out (by rw [HI.out, decide_eq_true_eq]; omega))
                    clear h32
                    go_wp2
                    go_roundg gk
                    case rel => exact ⟨q, rfl, by omega, by omega, hy.out, HA4.out, HW.out⟩
                    case measure => omega
                  · have hn := HNO.out (by rw [HI.out, decide_eq_false_iff_not]; omega)
                    have HN := Lib.hid hn
                    clear h32 hn
                    rcases (show x < 9 ∨ 13 < x by omega) with h | h <;>
                    · clear h9
                      go_wp2
                      go_ret2
                      exact ⟨by rw [HN.out]; rfl, HW.out⟩

end Go.Proofs.YtplillcmgahapaaDoor
