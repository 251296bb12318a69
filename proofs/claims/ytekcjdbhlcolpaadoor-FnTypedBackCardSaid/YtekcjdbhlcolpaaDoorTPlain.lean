/- Plain lemmas: what strconv's two readers tell of decimal digits. No program is in sight. -/
import Derived.Test.YtekcjdbhlcolpaaDoorDigits
import Derived.Lib.ParseIntBCases
namespace Go.Proofs.YtekcjdbhlcolpaaDoor
open Go.Lib

/-- Digits as bytes. -/
def dgB (l : List Nat) : List UInt8 := l.map Nat.toUInt8
def dg (n : Nat) : List UInt8 := dgB (digs n)
theorem dig_toNat {x : Nat} (h : x < 256) : x.toUInt8.toNat = x := by
  show (UInt8.ofNat x).toNat = x
  rw [UInt8.toNat_ofNat']; omega
/-- The number that digits tell behind a number. -/
def valF (acc : Nat) (l : List Nat) : Nat := l.foldl (fun a x => a * 10 + (x - 48)) acc
theorem valF_le : ∀ (l : List Nat) (acc : Nat), acc ≤ valF acc l
  | [], acc => Nat.le_refl _
  | x :: l, acc => Nat.le_trans (show acc ≤ acc * 10 + (x - 48) by omega) (valF_le l _)
theorem valF_zero (l : List Nat) : valF 0 l = val l := rfl
theorem pum_digs (M : Nat) (hM : M ≤ 18446744073709551615) : ∀ (l : List Nat) (acc : Nat), isD l → acc ≤ M →
    parseUintM M acc (dgB l) = if valF acc l ≤ M then .ok (valF acc l) else .range
  | [], acc, _, h => by
    have e : valF acc [] = acc := rfl
    rw [e, if_pos h]; rfl
  | x :: l, acc, hd, h => by
    have hx := hd x (by simp)
    have e : valF acc (x :: l) = valF (acc * 10 + (x - 48)) l := rfl
    have e2 : dgB (x :: l) = x.toUInt8 :: dgB l := rfl
    have hb := valF_le l (acc * 10 + (x - 48))
    rw [e, e2, parseUintM, dig_toNat (by omega), if_pos hx]
    by_cases h1 : 1844674407370955162 ≤ acc
    · rw [if_pos h1, if_neg (by omega)]
    · rw [if_neg h1]
      by_cases h2 : M < acc * 10 + (x - 48)
      · rw [if_pos h2, if_neg (by omega)]
      · rw [if_neg h2]
        exact pum_digs M hM l _ (fun y hy => hd y (by simp [hy])) (by omega)
theorem dg_ne (n : Nat) : dg n ≠ [] := by
  intro h
  have h1 := congrArg List.length h
  have h2 := digs_pos n
  simp [dg, dgB] at h1
  rw [h1] at h2
  simp at h2
theorem pub_dg (B n : Nat) (hB : 2 ^ B - 1 ≤ 18446744073709551615) : parseUintB B (dg n) = if n ≤ 2 ^ B - 1 then .ok n else .range := by
  rw [parseUintB, if_neg (dg_ne n), dg, pum_digs _ hB _ _ (digs_isD n) (Nat.zero_le _), valF_zero, val_digs]
theorem pub64 (n : Nat) (h : n < 18446744073709551616) : parseUintB 64 (dg n) = .ok n := by
  rw [pub_dg 64 n (by decide), if_pos (by show n ≤ 2 ^ 64 - 1; omega)]
theorem pub32 (n : Nat) : parseUintB 32 (dg n) = if n < 4294967296 then .ok n else .range := by
  rw [pub_dg 32 n (by decide)]
  by_cases h : n < 4294967296
  · rw [if_pos h, if_pos (by show n ≤ 2 ^ 32 - 1; omega)]
  · rw [if_neg h, if_neg (by show ¬ n ≤ 2 ^ 32 - 1; omega)]
theorem dg_cons (n : Nat) : ∃ c r, dg n = c :: r ∧ c.toNat ≠ 43 ∧ c.toNat ≠ 45 := by
  have hp := digs_isD n
  have hl := digs_pos n
  cases hd : digs n with
  | nil => rw [hd] at hl; simp at hl
  | cons x l =>
    rw [hd] at hp
    have hx := hp x (by simp)
    refine ⟨x.toUInt8, dgB l, by rw [dg, hd]; rfl, ?_, ?_⟩ <;> rw [dig_toNat (by omega)] <;> omega
theorem pib_plus (n : Nat) (h : n < 18446744073709551616) : parseIntB 64 (dg n) = if n < 9223372036854775808 then .ok (n : Int) else .range := by
  obtain ⟨c, r, e, h1, h2⟩ := dg_cons n
  rw [e, parseIntB_plain 64 c r h1 h2, ← e, pub64 n h]
  show (if 2 ^ (64 - 1) ≤ n then NumEnd.range else .ok (n : Int)) = _
  by_cases h : n < 9223372036854775808
  · rw [if_pos h, if_neg (by show ¬ 2 ^ 63 ≤ n; omega)]
  · rw [if_neg h, if_pos (by show 2 ^ 63 ≤ n; omega)]
theorem pib_minus (n : Nat) (h : n < 9223372036854775808) : parseIntB 64 (45 :: dg n) = .ok (-(n : Int)) := by
  rw [parseIntB_minus, pub64 n (by omega)]
  show (if 2 ^ (64 - 1) < n then NumEnd.range else .ok (-(n : Int))) = _
  rw [if_neg (by show ¬ 2 ^ 63 < n; omega)]

end Go.Proofs.YtekcjdbhlcolpaaDoor
