/- ParseWithEnvs: the words of a line, the assignments ahead of them told apart. -/
import Derived.Test.YthekblmkcfkboaaDoorWBareL
namespace Go.Proofs.YthekblmkcfkboaaDoor
open Go.RowKit U8
open Go.Lib hiding intOf

def okE (j : Nat) (c : UInt8) : Bool := c == 95 || decide (97 ≤ c.toNat ∧ c.toNat ≤ 122) || decide (65 ≤ c.toNat ∧ c.toNat ≤ 90) || (decide (0 < j) && decide (48 ≤ c.toNat ∧ c.toNat ≤ 57))
def ixE (x : List UInt8) : Int := Lib.indexByte x 61
def envB (x : List UInt8) : Bool := decide (0 < ixE x) && (List.range (ixE x).toNat).all fun j => okE j (x.getD j 0)
theorem ixE_lt (x : List UInt8) : ixE x < x.length ∨ ixE x = -1 := by
  unfold ixE
  by_cases h : Lib.indexByte x 61 = -1
  · exact .inr h
  · left
    have h1 := Lib.indexByte_ge x 61
    obtain ⟨o, ho⟩ : ∃ o : Nat, Lib.indexByte x 61 = o := ⟨(Lib.indexByte x 61).toNat, by omega⟩
    have h2 := (List.getElem?_eq_some_iff.1 (Lib.indexByte_some ho).1).1
    omega
set_option maxHeartbeats 3200000 in
theorem isEnv_any (x : List UInt8) (w : World) (hx : x.length ≤ 1000000) : Calls Tryd.prog 34 #[.string (txt x)] w fun e w' => e = .returned (.bool (envB x)) ∧ w' = w := by
  have CI := Lib.hid (Tryd.strings_IndexByte (txt x) 61 w)
  rw [txt_list] at CI
  obtain ⟨i, hi⟩ : ∃ i, Lib.indexByte x 61 = i := ⟨_, rfl⟩
  have hi2 : ixE x = i := hi
  have e61 : (61 : Int).toNat.toUInt8 = 61 := rfl
  rw [e61, hi] at CI
  obtain ⟨S, hS⟩ : ∃ S, envB x = S := ⟨_, rfl⟩
  have hS2 : S = (decide (0 < i) && (List.range i.toNat).all fun j => okE j (x.getD j 0)) := by rw [← hS]; unfold envB; rw [hi2]
  have hil := ixE_lt x
  rw [hi2] at hil
  rw [hS]
  have HS := Lib.hid hS2
  have hts := txt_size x
  clear hS hS2 hi hi2 e61
  by_cases hi0 : i ≤ 0
  · have HF : Hid (S = false) := by show _ = _; rw [HS.out, decide_eq_false (by omega)]; rfl
    clear hil
    go_enter Tryd.func34, Tryd.ntmps34
    go_wp2_with fail
    refine CI.out.mono ?_
    rintro e wx ⟨rfl, hwx⟩
    obtain rfl := hwx.symm
    go_wp2
    go_ret
    exact ⟨by rw [HF.out]; rfl, rfl⟩
  obtain ⟨n, rfl⟩ : ∃ n : Nat, i = n := ⟨i.toNat, by omega⟩
  have hnl : n < x.length := by omega
  have hnz : n ≠ 0 := by omega
  have HA : Hid (S = (List.range n).all fun j => okE j (x.getD j 0)) := by show _ = _; rw [HS.out, decide_eq_true (by omega), Bool.true_and, Int.toNat_natCast]
  clear HS hil
  go_enter Tryd.func34, Tryd.ntmps34
  go_wp2_with fail
  refine CI.out.mono ?_
  rintro e wx ⟨rfl, hwx⟩
  obtain rfl := hwx.symm
  go_wp2
  go_loopg [4, 5] (n + 1) (fun gk v4 v5 wr => ∃ j : Nat, v4 = .int .i64 j ∧ j ≤ n ∧ n - j < gk ∧ Hid (∀ k, k < j → okE k (x.getD k 0) = true) ∧ wr = w)
  case atStart => exact ⟨0, rfl, by omega, by omega, fun k hk => absurd hk (by omega), rfl⟩
  case round =>
    obtain ⟨j, rfl, hj, hg, HJ, hwr⟩ := hrel
    obtain rfl := hwr.symm
    by_cases hlt : j < n
    · obtain ⟨gk, rfl⟩ : ∃ m, gk = m + 1 := ⟨gk - 1, by omega⟩
      have hb := List.getElem?_eq_getElem (show j < x.length by omega)
      have hgd : x.getD j 0 = x[j]'(by omega) := by simp [List.getD, List.getElem?_eq_getElem (show j < x.length by omega)]
      generalize x[j]'(by omega) = c at hb hgd
      have hby := run_byte x j c hb w
      have hc8 := c.toNat_lt
      have HGD := Lib.hid hgd
      clear hb hgd
      cases hok : okE j c with
      | true =>
        have HJ2 : Hid (∀ k, k < j + 1 → okE k (x.getD k 0) = true) := fun k hk => by
          rcases Nat.lt_succ_iff_lt_or_eq.1 hk with h | rfl
          · exact HJ.out k h
          · rw [HGD.out]; exact hok
        have hcase : c.toNat = 95 ∨ (97 ≤ c.toNat ∧ c.toNat ≤ 122) ∨ (65 ≤ c.toNat ∧ c.toNat ≤ 90) ∨ (0 < j ∧ 48 ≤ c.toNat ∧ c.toNat ≤ 57) := by
          unfold okE at hok
          simp only [Bool.or_eq_true, Bool.and_eq_true, decide_eq_true_eq, beq_iff_eq] at hok
          rcases hok with ((h | h) | h) | h
          · subst h; exact .inl rfl
          · exact .inr (.inl h)
          · exact .inr (.inr (.inl h))
          · exact .inr (.inr (.inr h))
        clear hok HJ
        rcases hcase with h | ⟨h1, h2⟩ | ⟨h1, h2⟩ | ⟨h0, h1, h2⟩
        · have e95 : ((c.toNat : Int) == 95) = true := by simp; omega
          go_wp2
          go_roundg gk
          case rel => exact ⟨j + 1, by go_num, by omega, by omega, HJ2.out, rfl⟩
          case measure => omega
        · have e95 : ((c.toNat : Int) == 95) = false := by simp; omega
          have f1 : (97 : Int) ≤ c.toNat := by omega
          have f2 : (c.toNat : Int) ≤ 122 := by omega
          clear h1 h2
          go_wp2
          go_roundg gk
          case rel => exact ⟨j + 1, by go_num, by omega, by omega, HJ2.out, rfl⟩
          case measure => omega
        · have e95 : ((c.toNat : Int) == 95) = false := by simp; omega
          have f1 : ¬ (97 : Int) ≤ c.toNat := by omega
          have f2 : (65 : Int) ≤ c.toNat := by omega
          have f3 : (c.toNat : Int) ≤ 90 := by omega
          clear h1 h2
          go_wp2
          go_roundg gk
          case rel => exact ⟨j + 1, by go_num, by omega, by omega, HJ2.out, rfl⟩
          case measure => omega
        · have e95 : ((c.toNat : Int) == 95) = false := by simp; omega
          have f1 : ¬ (97 : Int) ≤ c.toNat := by omega
          have f2 : ¬ (65 : Int) ≤ c.toNat := by omega
          have f3 : (0 : Int) < j := by omega
          have f4 : (48 : Int) ≤ c.toNat := by omega
          have f5 : (c.toNat : Int) ≤ 57 := by omega
          clear h0 h1 h2
          go_wp2
          go_roundg gk
          case rel => exact ⟨j + 1, by go_num, by omega, by omega, HJ2.out, rfl⟩
          case measure => omega
      | false =>
        have HF : Hid (S = false) := by
          show _ = _
          rw [HA.out, Bool.eq_false_iff]
          intro h
          have := List.all_eq_true.1 h j (List.mem_range.2 hlt)
          rw [HGD.out, hok] at this
          cases this
        have hno : c.toNat ≠ 95 ∧ ¬ (97 ≤ c.toNat ∧ c.toNat ≤ 122) ∧ ¬ (65 ≤ c.toNat ∧ c.toNat ≤ 90) ∧ ¬ (0 < j ∧ 48 ≤ c.toNat ∧ c.toNat ≤ 57) := by
          unfold okE at hok
          simp only [Bool.or_eq_false_iff, Bool.and_eq_false_iff, decide_eq_false_iff_not, beq_eq_false_iff_ne] at hok
          obtain ⟨⟨⟨h1, h2⟩, h3⟩, h4⟩ := hok
          refine ⟨fun h => h1 (UInt8.toNat_inj.1 h), h2, h3, fun h => ?_⟩
          rcases h4 with h4 | h4
          · exact h4 h.1
          · exact h4 h.2
        have e95 : ((c.toNat : Int) == 95) = false := by simp; omega
        obtain ⟨_, n2, n3, n4⟩ := hno
        clear hok HJ
        rcases (show (c.toNat : Int) > 122 ∨ ((c.toNat : Int) ≤ 122 ∧ (c.toNat : Int) > 90) ∨ ((c.toNat : Int) < 65 ∧ (c.toNat : Int) > 57) ∨ (c.toNat : Int) < 48 ∨ ((48 : Int) ≤ c.toNat ∧ (c.toNat : Int) ≤ 57 ∧ j = 0) by omega) with h | ⟨h, h'⟩ | ⟨h, h'⟩ | h | ⟨h, h', h0⟩
        · have f1 : (97 : Int) ≤ c.toNat := by omega
          have f2 : ¬ (c.toNat : Int) ≤ 122 := by omega
          have f3 : (65 : Int) ≤ c.toNat := by omega
          have f4 : ¬ (c.toNat : Int) ≤ 90 := by omega
          have f5 : (48 : Int) ≤ c.toNat := by omega
          have f6 : ¬ (c.toNat : Int) ≤ 57 := by omega
          clear n2 n3 n4 h
          rcases (show j = 0 ∨ (0 : Int) < j by omega) with rfl | f7
          all_goals
            (try rw [show ((0 : Nat) : Int) = 0 from rfl] at hby)
            go_wp2
            go_ret
            exact ⟨by rw [HF.out]; rfl, rfl⟩
        · have f1 : ¬ (97 : Int) ≤ c.toNat := by omega
          have f3 : (65 : Int) ≤ c.toNat := by omega
          have f4 : ¬ (c.toNat : Int) ≤ 90 := by omega
          have f5 : (48 : Int) ≤ c.toNat := by omega
          have f6 : ¬ (c.toNat : Int) ≤ 57 := by omega
          clear n2 n3 n4 h h'
          rcases (show j = 0 ∨ (0 : Int) < j by omega) with rfl | f7
          all_goals
            (try rw [show ((0 : Nat) : Int) = 0 from rfl] at hby)
            go_wp2
            go_ret
            exact ⟨by rw [HF.out]; rfl, rfl⟩
        · have f1 : ¬ (97 : Int) ≤ c.toNat := by omega
          have f3 : ¬ (65 : Int) ≤ c.toNat := by omega
          have f5 : (48 : Int) ≤ c.toNat := by omega
          have f6 : ¬ (c.toNat : Int) ≤ 57 := by omega
          clear n2 n3 n4 h h'
          rcases (show j = 0 ∨ (0 : Int) < j by omega) with rfl | f7
          all_goals
            (try rw [show ((0 : Nat) : Int) = 0 from rfl] at hby)
            go_wp2
            go_ret
            exact ⟨by rw [HF.out]; rfl, rfl⟩
        · have f1 : ¬ (97 : Int) ≤ c.toNat := by omega
          have f3 : ¬ (65 : Int) ≤ c.toNat := by omega
          have f5 : ¬ (48 : Int) ≤ c.toNat := by omega
          clear n2 n3 n4 h
          rcases (show j = 0 ∨ (0 : Int) < j by omega) with rfl | f7
          all_goals
            (try rw [show ((0 : Nat) : Int) = 0 from rfl] at hby)
            go_wp2
            go_ret
            exact ⟨by rw [HF.out]; rfl, rfl⟩
        · have f1 : ¬ (97 : Int) ≤ c.toNat := by omega
          have f3 : ¬ (65 : Int) ≤ c.toNat := by omega
          subst h0
          rw [show ((0 : Nat) : Int) = 0 from rfl] at hby
          clear n2 n3 n4
          go_wp2
          go_ret
          exact ⟨by rw [HF.out]; rfl, rfl⟩
    · have HF : Hid (S = true) := by
        show _ = _
        rw [HA.out, List.all_eq_true]
        intro k hk
        exact HJ.out k (by have := List.mem_range.1 hk; omega)
      clear HJ
      go_wp2
      go_ret
      exact ⟨by rw [HF.out]; rfl, rfl⟩

end Go.Proofs.YthekblmkcfkboaaDoor
