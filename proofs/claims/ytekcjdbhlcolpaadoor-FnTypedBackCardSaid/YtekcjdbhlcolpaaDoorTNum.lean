/- The text of a number: laws.number's contract. -/
import Derived.Test.YtekcjdbhlcolpaaDoorTGet
import Derived.Deep.RegionWith
namespace Go.Proofs.YtekcjdbhlcolpaaDoor
open Go.RowKit U8
open Go.Lib hiding intOf

theorem dg_small {n : Nat} (h : n < 10) : dg n = [(48 + n).toUInt8] := by rw [dg, digs_small h]; rfl
theorem dg_big {n : Nat} (h : ¬ n < 10) : dg n = dg (n / 10) ++ [(48 + n % 10).toUInt8] := by rw [dg, digs_big h]; simp [dg, dgB]
theorem dg_len : ∀ (k n : Nat), n < 10 ^ k → 1 ≤ k → (dg n).length ≤ k
  | 0, n, _, h => by omega
  | k + 1, n, h, _ => by
    by_cases h1 : n < 10
    · rw [dg_small h1]; simp
    · rw [dg_big h1, List.length_append, List.length_singleton]
      have hk : 1 ≤ k := by
        rcases Nat.eq_zero_or_pos k with e | e
        · subst e; simp at h; omega
        · exact e
      have := dg_len k (n / 10) (by rw [Nat.pow_succ] at h; omega) hk
      omega
theorem one_byte (W W' : World) (x : Nat) (h : x < 128) (hb : Below (W.heap.size + 1) (W.alloc (.cells #[.int .u8 (x : Int)] 5)) W') :
    (convert 53 9 (.slice (some ⟨W.heap.size, 0, none⟩) 1 1)).run Tryd.prog W' = .ok (.string (txt [x.toUInt8])) W' := by
  refine run_bytes_text [x.toUInt8] rfl fun j hj => ?_
  obtain rfl : j = 0 := by omega
  rw [hb.cell (by simp), byteCells_get]
  simp [go_sem, dig_toNat (show x < 256 by omega)]
theorem wrap_same {k : IntKind} {z : Int} (hk : k.signed = false) (h0 : 0 ≤ z) (h1 : z < (2 : Int) ^ k.bits) : k.wrap z = z := by
  unfold IntKind.wrap
  simp [hk]
  exact Int.emod_eq_of_lt h0 h1

set_option maxHeartbeats 3200000 in
set_option maxRecDepth 100000 in
/-- The text of a number. -/
theorem number_any (n : Nat) : ∀ (w : World), n < 18446744073709551616 →
    Calls Tryd.prog 12 #[.int .u64 n] w fun e w' => e = .returned (.string (txt (dg n))) ∧ Below w.heap.size w w' := by
  induction n using Nat.strongRecOn with
  | _ n ih =>
    intro w hn
    by_cases h : n < 10
    · rw [dg_small h]
      have hcv := one_byte w (w.alloc (.cells #[.int .u8 ((48 + n : Nat) : Int)] 5)) (48 + n) (by omega) (Below.refl _ _)
      rw [show ((48 + n : Nat) : Int) = 48 + (n : Int) by omega] at hcv
      obtain ⟨D, hD⟩ : ∃ D, txt [(48 + n).toUInt8] = D := ⟨_, rfl⟩
      rw [hD] at hcv ⊢
      clear hD
      go_enter Tryd.func12, Tryd.ntmps12
      go_wp2
      go_ret
      exact ⟨rfl, (Below.refl _ _).alloc (Nat.le_refl _) _⟩
    · rw [dg_big h, ← txt_append]
      have cN := Lib.hid (ih (n / 10) (by omega))
      have hdl := dg_len 20 (n / 10) (by omega) (by omega)
      have hen : (txt [(48 + n % 10).toUInt8]).size ≤ 4 := by rw [txt_size]; simp
      have hed : (txt (dg (n / 10))).size ≤ 20 := by rw [txt_size]; omega
      have hcat : (txt (dg (n / 10))).size + (txt [(48 + n % 10).toUInt8]).size ≤ 1000000 := by omega
      have hq : (n : Int) / 10 = ((n / 10 : Nat) : Int) := rfl
      have hr : (n : Int) % 10 = ((n % 10 : Nat) : Int) := rfl
      have hr10 : n % 10 < 10 := Nat.mod_lt _ (by omega)
      have hqn : n / 10 < 18446744073709551616 := by omega
      have h10 : 10 ≤ n := by omega
      have htm : (n : Int).tmod 10 = ((n % 10 : Nat) : Int) := by rw [Int.tmod_eq_emod_of_nonneg (by omega)]; rfl
      have hw1 : IntKind.u64.wrap ((n / 10 : Nat) : Int) = ((n / 10 : Nat) : Int) := wrap_same (by decide) (by omega) (by show _ < (2 : Int) ^ 64; omega)
      have hw2 : IntKind.u64.wrap (48 + ((n % 10 : Nat) : Int)) = 48 + ((n % 10 : Nat) : Int) := wrap_same (by decide) (by omega) (by show _ < (2 : Int) ^ 64; omega)
      have hw3 : IntKind.u8.wrap (48 + ((n % 10 : Nat) : Int)) = 48 + ((n % 10 : Nat) : Int) := wrap_same (by decide) (by omega) (by show _ < (2 : Int) ^ 8; omega)
      clear hdl hen hed
      generalize n / 10 = q at *
      generalize n % 10 = r at *
      have HCV : Hid (∀ W' : World, Below (w.heap.size + 1) (w.drew.alloc (.cells #[.int .u8 ((48 + r : Nat) : Int)] 5)) W' → (convert 53 9 (.slice (some ⟨w.heap.size, 0, none⟩) 1 1)).run Tryd.prog W' = .ok (.string (txt [(48 + r).toUInt8])) W') := fun W' hb => one_byte w.drew W' (48 + r) (by omega) hb
      have hcv1 := fun (W : World) => one_byte W (W.alloc (.cells #[.int .u8 ((48 + r : Nat) : Int)] 5)) (48 + r) (by omega) (Below.refl _ _)
      rw [show ((48 + r : Nat) : Int) = 48 + (r : Int) by omega] at hcv1 HCV
      obtain ⟨D, hD⟩ : ∃ D, txt [(48 + r).toUInt8] = D := ⟨_, rfl⟩
      obtain ⟨A, hA⟩ : ∃ A, txt (dg q) = A := ⟨_, rfl⟩
      rw [hD] at hcat hcv1 HCV ⊢
      rw [hA] at hcat cN ⊢
      clear hD hA
      have hb0 : Below w.heap.size w w.drew := (Below.refl _ _).drew
      have hb1 := hb0.alloc (Nat.le_refl _) (.cells #[.int .u8 (48 + (r : Int))] 5)
      have hb2 : Below w.heap.size w (w.alloc (.cells #[.int .u8 (48 + (r : Int))] 5)).drew := ((Below.refl _ _).alloc (Nat.le_refl _) _).drew
      have hcv0 := HCV.out (w.alloc (.cells #[.int .u8 (48 + (r : Int))] 5)).drew (Below.refl _ _)
      go_enter Tryd.func12, Tryd.ntmps12
      go_wp2_with fail
      go_region_with (go_at_call 12; refine (cN.out _ hqn).mono ?_; rintro e wn ⟨rfl, hbn⟩; have hB := chain (w := w) (by assumption) hbn; try have hcn := HCV.out wn (Below.mono hbn (by simp)))
      all_goals (go_wp2; go_ret; first | exact ⟨rfl, hB⟩ | exact ⟨rfl, hB.alloc hB.size _⟩)

end Go.Proofs.YtekcjdbhlcolpaaDoor
