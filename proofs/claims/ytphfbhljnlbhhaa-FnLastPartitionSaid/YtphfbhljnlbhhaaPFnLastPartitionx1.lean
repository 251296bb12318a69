-- PRINTED BY print.sh 35421559b90ae4d0a3588c463048766b98c2df88dd9212a6774a882060cdf62d: not written by this session
import Derived.Test.YtphfbhljnlbhhaaPFnLastPartitionx0
namespace Go.Proofs.Ytphfbhljnlbhhaa.PFnLastPartition
open Go.RowKit Go.Proofs.YtphfbhljnlbhhaaW.PrintWords Go.Proofs.YtphfbhljnlbhhaaW.PrintLast Go.Proofs.YtphfbhljnlbhhaaW.PrintMore
attribute [local go_sem] max2_int min2_int max_two min_two max_three min_three max_four min_four   -- for this text's walks alone
set_option linter.unusedVariables false
set_option linter.unusedSimpArgs false

/-! ### xstrings_zzLastIndex: function 8 -/
def xstrings_zzLastIndex.l0 : Nat → ByteArray → ByteArray → Int → Option (Int)
  | 0, _, _, _ => none
  | k + 1, x0, x1, x5 => if x5 ≥ 0 then (if 0 ≤ x5 then (if x5 ≤ (wrap64 (x5 + (x1.size : Int))) then (if (wrap64 (x5 + (x1.size : Int))) ≤ (x0.size : Int) then (if (x0.extract (x5 : Int).toNat ((wrap64 (x5 + (x1.size : Int))) : Int).toNat).toList = x1.toList then (some x5) else (xstrings_zzLastIndex.l0 k x0 x1 (wrap64 (x5 - 1)))) else (none)) else (none)) else (none)) else (some (-1))
def xstrings_zzLastIndex.f (k : Nat) (a0 : ByteArray) (a1 : ByteArray) : Option (Int) := xstrings_zzLastIndex.l0 k a0 a1 (wrap64 ((a0.size : Int) - (a1.size : Int)))
theorem xstrings_zzLastIndex.mono_l : ∀ k, (∀ y0 y1 y2, LeO (xstrings_zzLastIndex.l0 k y0 y1 y2) (xstrings_zzLastIndex.l0 (k + 1) y0 y1 y2))
  | 0 => fun _ _ _ r h => by simp [xstrings_zzLastIndex.l0] at h
  | k + 1 => by
    have ih0 := xstrings_zzLastIndex.mono_l k
    · intro y0 y1 y2
      unfold xstrings_zzLastIndex.l0
      repeat' first
      | (with_reducible exact ih0 _ _ _)
      | (with_reducible exact LeO.refl _)
      | (with_reducible exact LeO.none _)
      | (with_reducible refine LeO.ite ?_ ?_)
      | (with_reducible refine LeO.bind ?_ (fun _ => ?_))
      | exact ih0 _ _ _
      | exact LeO.none _
      | refine LeO.ite ?_ ?_
      | refine LeO.bind ?_ (fun _ => ?_)
theorem xstrings_zzLastIndex.mono : ∀ a0 a1 k, LeO (xstrings_zzLastIndex.f k a0 a1) (xstrings_zzLastIndex.f (k + 1) a0 a1) := by
  intro a0 a1 k
  have ih0 := xstrings_zzLastIndex.mono_l k
  unfold xstrings_zzLastIndex.f
  repeat' first
      | (with_reducible exact ih0 _ _ _)
      | (with_reducible exact LeO.refl _)
      | (with_reducible exact LeO.none _)
      | (with_reducible refine LeO.ite ?_ ?_)
      | (with_reducible refine LeO.bind ?_ (fun _ => ?_))
      | exact ih0 _ _ _
      | exact LeO.none _
      | refine LeO.ite ?_ ?_
      | refine LeO.bind ?_ (fun _ => ?_)
set_option maxHeartbeats 8000000 in
set_option maxRecDepth 100000 in
theorem xstrings_zzLastIndex.calls (k : Nat) (a0 : ByteArray) (a1 : ByteArray) (r : Int) (w : World) (h : xstrings_zzLastIndex.f k a0 a1 = some r) :
    Calls Try.prog 8 #[.string a0, .string a1] w fun e w' => e = .returned (.int .i64 r) ∧ Drawn0 w w' := by
  have H : (xstrings_zzLastIndex.l0 k a0 a1 (wrap64 ((a0.size : Int) - (a1.size : Int)))) = some r := h
  clear h
  have H' := Aside0.mk H
  clear H
  go_enter Try.func8, Try.ntmps8
  go_wp2
  go_loopg [5] k (fun kq v5 w' => ∃ (x5_1 : Int), v5 = .int .i64 x5_1 ∧ Aside0 (xstrings_zzLastIndex.l0 kq a0 a1 x5_1 = some r) ∧ Aside0 (kq ≤ k) ∧ Drawn0 w w')
  case atStart => exact ⟨(wrap64 ((a0.size : Int) - (a1.size : Int))), (by first | rfl | (simp; done) | (simp [*]; done)), H', ⟨Nat.le_refl _⟩, by repeat (first | exact Drawn0.refl _ | apply Drawn0.step)⟩
  case round =>
    clear H'
    try clear p2
    obtain ⟨x5_1, rfl, HA, HK1, ⟨m1, rfl⟩⟩ := hrel
    cases gk with
    | zero => exact absurd HA.out (by simp [xstrings_zzLastIndex.l0])
    | succ k1 =>
      have H := HA.out
      clear HA
      simp only [xstrings_zzLastIndex.l0] at H
      by_cases c3 : x5_1 ≥ 0
      · rw [if_pos c3] at H
        have c3b0 : decide (0 ≤ x5_1) = true := decide_eq_true c3
        clear c3
        by_cases c4 : 0 ≤ x5_1
        · rw [if_pos c4] at H
          have c4b0 := eq_true c4
          have c4b1 : decide (0 ≤ x5_1) = true := decide_eq_true c4
          clear c4
          by_cases c5 : x5_1 ≤ (wrap64 (x5_1 + (a1.size : Int)))
          · rw [if_pos c5] at H
            have c5b0 := eq_true c5
            have c5b1 : decide (x5_1 ≤ (wrap64 (x5_1 + (a1.size : Int)))) = true := decide_eq_true c5
            by_cases c6 : (wrap64 (x5_1 + (a1.size : Int))) ≤ (a0.size : Int)
            · rw [if_pos c6] at H
              have c6b0 := eq_true c6
              have c6b1 : decide ((wrap64 (x5_1 + (a1.size : Int))) ≤ (a0.size : Int)) = true := decide_eq_true c6
              by_cases c7 : (a0.extract (x5_1 : Int).toNat ((wrap64 (x5_1 + (a1.size : Int))) : Int).toNat).toList = a1.toList
              · rw [if_pos c7] at H
                have c7b0 : ((a0.extract (x5_1 : Int).toNat ((wrap64 (x5_1 + (a1.size : Int))) : Int).toNat).toList == a1.toList) = true := beq_iff_eq.mpr c7
                have c7b1 : ((a0.extract (x5_1 : Int).toNat ((wrap64 (x5_1 + (a1.size : Int))) : Int).toNat).toList != a1.toList) = false := bne_eq_false_iff_eq.mpr c7
                clear c7
                obtain rfl := Option.some.inj H
                go_wp2
                go_ret
                exact ⟨by first | rfl | (simp; done) | (simp [*]; done), by repeat (first | exact Drawn0.refl _ | apply Drawn0.step)⟩
              · rw [if_neg c7] at H
                have c7b0 : ((a0.extract (x5_1 : Int).toNat ((wrap64 (x5_1 + (a1.size : Int))) : Int).toNat).toList == a1.toList) = false := beq_eq_false_iff_ne.mpr c7
                have c7b1 : ((a0.extract (x5_1 : Int).toNat ((wrap64 (x5_1 + (a1.size : Int))) : Int).toNat).toList != a1.toList) = true := bne_iff_ne.mpr c7
                have H' := Aside0.mk H
                clear H
                go_wp2
                go_roundg k1
                case measure => have := HK1.out; omega
                case rel => exact ⟨(wrap64 (x5_1 - 1)), (by first | rfl | (simp; done) | (simp [*]; done)), H', ⟨by have := HK1.out; omega⟩, by repeat (first | exact Drawn0.refl _ | apply Drawn0.step)⟩
            · rw [if_neg c6] at H
              exact absurd H (by simp)
          · rw [if_neg c5] at H
            exact absurd H (by simp)
        · rw [if_neg c4] at H
          exact absurd H (by simp)
      · rw [if_neg c3] at H
        have c3b0 : decide (0 ≤ x5_1) = false := decide_eq_false c3
        clear c3
        obtain rfl := Option.some.inj H
        go_wp2
        go_ret
        exact ⟨by first | rfl | (simp; done) | (simp [*]; done), by repeat (first | exact Drawn0.refl _ | apply Drawn0.step)⟩

/-! ### xstrings_LastPartition: function 7 -/
def xstrings_LastPartition.f (k : Nat) (a0 : ByteArray) (a1 : ByteArray) : Option (ByteArray × ByteArray × ByteArray) := (xstrings_zzLastIndex.f k a0 a1).bind fun t101 => (if t101 = (-1) then (some ((⟨#[]⟩ : ByteArray), (⟨#[]⟩ : ByteArray), a0)) else (if 0 ≤ t101 then (if t101 ≤ (a0.size : Int) then (if t101 ≤ (wrap64 (t101 + (a1.size : Int))) then (if (wrap64 (t101 + (a1.size : Int))) ≤ (a0.size : Int) then (if 0 ≤ (wrap64 (t101 + (a1.size : Int))) then (some (a0.extract 0 (t101 : Int).toNat, a0.extract (t101 : Int).toNat ((wrap64 (t101 + (a1.size : Int))) : Int).toNat, a0.extract ((wrap64 (t101 + (a1.size : Int))) : Int).toNat a0.size)) else (none)) else (none)) else (none)) else (none)) else (none)))
theorem xstrings_LastPartition.mono : ∀ a0 a1 k, LeO (xstrings_LastPartition.f k a0 a1) (xstrings_LastPartition.f (k + 1) a0 a1) := by
  intro a0 a1 k
  unfold xstrings_LastPartition.f
  repeat' first
      | (with_reducible exact xstrings_zzLastIndex.mono _ _ _)
      | (with_reducible exact LeO.refl _)
      | (with_reducible exact LeO.none _)
      | (with_reducible refine LeO.ite ?_ ?_)
      | (with_reducible refine LeO.bind ?_ (fun _ => ?_))
      | exact xstrings_zzLastIndex.mono _ _ _
      | exact LeO.none _
      | refine LeO.ite ?_ ?_
      | refine LeO.bind ?_ (fun _ => ?_)
set_option maxHeartbeats 8000000 in
set_option maxRecDepth 100000 in
theorem xstrings_LastPartition.calls (k : Nat) (a0 : ByteArray) (a1 : ByteArray) (r1 : ByteArray) (r2 : ByteArray) (r3 : ByteArray) (w : World) (h : xstrings_LastPartition.f k a0 a1 = some (r1, r2, r3)) :
    Calls Try.prog 7 #[.string a0, .string a1] w fun e w' => e = .returned (.tuple #[.string r1, .string r2, .string r3]) ∧ Drawn0 w w' := by
  have H : ((xstrings_zzLastIndex.f k a0 a1).bind fun t101 => (if t101 = (-1) then (some ((⟨#[]⟩ : ByteArray), (⟨#[]⟩ : ByteArray), a0)) else (if 0 ≤ t101 then (if t101 ≤ (a0.size : Int) then (if t101 ≤ (wrap64 (t101 + (a1.size : Int))) then (if (wrap64 (t101 + (a1.size : Int))) ≤ (a0.size : Int) then (if 0 ≤ (wrap64 (t101 + (a1.size : Int))) then (some (a0.extract 0 (t101 : Int).toNat, a0.extract (t101 : Int).toNat ((wrap64 (t101 + (a1.size : Int))) : Int).toNat, a0.extract ((wrap64 (t101 + (a1.size : Int))) : Int).toNat a0.size)) else (none)) else (none)) else (none)) else (none)) else (none)))) = some (r1, r2, r3) := h
  clear h
  replace H := Option.bind_eq_some_iff.mp H
  obtain ⟨t101, A30, H⟩ := H
  replace H : (if t101 = (-1) then (some ((⟨#[]⟩ : ByteArray), (⟨#[]⟩ : ByteArray), a0)) else (if 0 ≤ t101 then (if t101 ≤ (a0.size : Int) then (if t101 ≤ (wrap64 (t101 + (a1.size : Int))) then (if (wrap64 (t101 + (a1.size : Int))) ≤ (a0.size : Int) then (if 0 ≤ (wrap64 (t101 + (a1.size : Int))) then (some (a0.extract 0 (t101 : Int).toNat, a0.extract (t101 : Int).toNat ((wrap64 (t101 + (a1.size : Int))) : Int).toNat, a0.extract ((wrap64 (t101 + (a1.size : Int))) : Int).toNat a0.size)) else (none)) else (none)) else (none)) else (none)) else (none))) = some (r1, r2, r3) := H
  have A3 := Aside0.mk A30
  clear A30
  by_cases c4 : t101 = (-1)
  · rw [if_pos c4] at H
    have c4b0 : (t101 == (-1)) = true := beq_iff_eq.mpr c4
    have c4b1 : (t101 != (-1)) = false := bne_eq_false_iff_eq.mpr c4
    clear c4
    simp only [Option.some.injEq, Prod.mk.injEq] at H
    obtain ⟨rfl, rfl, rfl⟩ := H
    go_enter Try.func7, Try.ntmps7
    go_wp2_with (first | ((with_reducible refine gate_callee (f := 8) rfl ?_); refine goesL_ (some 10) rfl rfl Try.func8 (by kernel_rfl) rfl #[.string a0, .string a1] rfl (by (try simp only [List.map_toArray, List.map_cons, List.map_nil]); first | done | rfl | (simp only [List.length_drop, List.length_take]; rfl)) ?_; (with_reducible refine (xstrings_zzLastIndex.calls k a0 a1 t101 _ A3.out).mono ?_); rintro e w' ⟨rfl, ⟨nd, rfl⟩⟩; refine ⟨_, rfl, ?_⟩))
    go_ret3
    exact ⟨by first | rfl | (simp; done) | (simp [*]; done), by repeat (first | exact Drawn0.refl _ | apply Drawn0.step)⟩
  · rw [if_neg c4] at H
    have c4b0 : (t101 == (-1)) = false := beq_eq_false_iff_ne.mpr c4
    have c4b1 : (t101 != (-1)) = true := bne_iff_ne.mpr c4
    by_cases c5 : 0 ≤ t101
    · rw [if_pos c5] at H
      have c5b0 := eq_true c5
      have c5b1 : decide (0 ≤ t101) = true := decide_eq_true c5
      clear c5
      by_cases c6 : t101 ≤ (a0.size : Int)
      · rw [if_pos c6] at H
        have c6b0 := eq_true c6
        have c6b1 : decide (t101 ≤ (a0.size : Int)) = true := decide_eq_true c6
        clear c6
        have c7b0 := eq_true (of_decide_eq_true (by first | (with_reducible assumption) | assumption) : 0 ≤ t101)
        by_cases c8 : t101 ≤ (wrap64 (t101 + (a1.size : Int)))
        · rw [if_pos c8] at H
          have c8b0 := eq_true c8
          have c8b1 : decide (t101 ≤ (wrap64 (t101 + (a1.size : Int)))) = true := decide_eq_true c8
          by_cases c9 : (wrap64 (t101 + (a1.size : Int))) ≤ (a0.size : Int)
          · rw [if_pos c9] at H
            have c9b0 := eq_true c9
            have c9b1 : decide ((wrap64 (t101 + (a1.size : Int))) ≤ (a0.size : Int)) = true := decide_eq_true c9
            obtain ⟨ji10, hji10⟩ : ∃ j_ : Int, (wrap64 (t101 + (a1.size : Int))) = j_ := ⟨_, rfl⟩
            replace H : (if 0 ≤ (ji10) then (some (a0.extract 0 (t101 : Int).toNat, a0.extract (t101 : Int).toNat ((ji10) : Int).toNat, a0.extract ((ji10) : Int).toNat a0.size)) else (none)) = some (r1, r2, r3) := by first | (rw [hji10] at H; exact H) | (simp only [hji10] at H ⊢; exact H)
            (try rw [hji10] at c8b0)
            (try rw [hji10] at c8b1)
            (try rw [hji10] at c8)
            (try rw [hji10] at c9b0)
            (try rw [hji10] at c9b1)
            (try rw [hji10] at c9)
            (try rw [hji10] at A3)
            have hji10w : (IntKind.i64.wrap (t101 + (a1.size : Int))) = ji10 := (i64_w _).trans hji10
            by_cases c11 : 0 ≤ (ji10)
            · rw [if_pos c11] at H
              have c11b0 := eq_true c11
              have c11b1 : decide (0 ≤ (ji10)) = true := decide_eq_true c11
              clear c11
              have c12b0 := eq_true (of_decide_eq_true (by first | (with_reducible assumption) | assumption) : (ji10) ≤ (a0.size : Int))
              simp only [Option.some.injEq, Prod.mk.injEq] at H
              obtain ⟨rfl, rfl, rfl⟩ := H
              go_enter Try.func7, Try.ntmps7
              go_wp2_with (first | ((with_reducible refine gate_callee (f := 8) rfl ?_); refine goesL_ (some 10) rfl rfl Try.func8 (by kernel_rfl) rfl #[.string a0, .string a1] rfl (by (try simp only [List.map_toArray, List.map_cons, List.map_nil]); first | done | rfl | (simp only [List.length_drop, List.length_take]; rfl)) ?_; (with_reducible refine (xstrings_zzLastIndex.calls k a0 a1 t101 _ A3.out).mono ?_); rintro e w' ⟨rfl, ⟨nd, rfl⟩⟩; refine ⟨_, rfl, ?_⟩))
              go_ret3
              exact ⟨by first | rfl | (simp; done) | (simp only [← hji10] <;> (first | rfl | simp)) | (simp [*]; done), by repeat (first | exact Drawn0.refl _ | apply Drawn0.step)⟩
            · rw [if_neg c11] at H
              exact absurd H (by simp)
          · rw [if_neg c9] at H
            exact absurd H (by simp)
        · rw [if_neg c8] at H
          exact absurd H (by simp)
      · rw [if_neg c6] at H
        exact absurd H (by simp)
    · rw [if_neg c5] at H
      exact absurd H (by simp)

/-! ### impl_LastPartition: function 4 -/
def impl_LastPartition.f (k : Nat) (a0 : ByteArray) (a1 : ByteArray) : Option (ByteArray × ByteArray × ByteArray) := (xstrings_LastPartition.f k a0 a1).bind fun bt102 => (some (bt102.1, bt102.2.1, bt102.2.2))
theorem impl_LastPartition.mono : ∀ a0 a1 k, LeO (impl_LastPartition.f k a0 a1) (impl_LastPartition.f (k + 1) a0 a1) := by
  intro a0 a1 k
  unfold impl_LastPartition.f
  repeat' first
      | (with_reducible exact xstrings_LastPartition.mono _ _ _)
      | (with_reducible exact LeO.refl _)
      | (with_reducible exact LeO.none _)
      | (with_reducible refine LeO.ite ?_ ?_)
      | (with_reducible refine LeO.bind ?_ (fun _ => ?_))
      | exact xstrings_LastPartition.mono _ _ _
      | exact LeO.none _
      | refine LeO.ite ?_ ?_
      | refine LeO.bind ?_ (fun _ => ?_)
set_option maxHeartbeats 8000000 in
set_option maxRecDepth 100000 in
theorem impl_LastPartition.calls (k : Nat) (a0 : ByteArray) (a1 : ByteArray) (r1 : ByteArray) (r2 : ByteArray) (r3 : ByteArray) (w : World) (h : impl_LastPartition.f k a0 a1 = some (r1, r2, r3)) :
    Calls Try.prog 4 #[.string a0, .string a1] w fun e w' => e = .returned (.tuple #[.string r1, .string r2, .string r3]) ∧ Drawn0 w w' := by
  have H : ((xstrings_LastPartition.f k a0 a1).bind fun bt102 => (some (bt102.1, bt102.2.1, bt102.2.2))) = some (r1, r2, r3) := h
  clear h
  replace H := Option.bind_eq_some_iff.mp H
  obtain ⟨⟨t102, t103, t104⟩, A30, H⟩ := H
  replace H : (some (t102, t103, t104)) = some (r1, r2, r3) := H
  have A3 := Aside0.mk A30
  clear A30
  simp only [Option.some.injEq, Prod.mk.injEq] at H
  obtain ⟨rfl, rfl, rfl⟩ := H
  go_enter Try.func4, Try.ntmps4
  go_wp2_with (first | ((with_reducible refine gate_callee (f := 7) rfl ?_); refine goesL_ (some 9) rfl rfl Try.func7 (by kernel_rfl) rfl #[.string a0, .string a1] rfl (by (try simp only [List.map_toArray, List.map_cons, List.map_nil]); first | done | rfl | (simp only [List.length_drop, List.length_take]; rfl)) ?_; (with_reducible refine (xstrings_LastPartition.calls k a0 a1 t102 t103 t104 _ A3.out).mono ?_); rintro e w' ⟨rfl, ⟨nd, rfl⟩⟩; refine ⟨_, rfl, ?_⟩))
  go_ret3
  exact ⟨by first | rfl | (simp; done) | (simp [*]; done), by repeat (first | exact Drawn0.refl _ | apply Drawn0.step)⟩

/-! ### laws_long: function 5 -/
def laws_long.f (a0 : ByteArray) : Option (Bool) := some (decide ((a0.size : Int) > 4096))
set_option maxHeartbeats 8000000 in
set_option maxRecDepth 100000 in
theorem laws_long.calls (a0 : ByteArray) (r : Bool) (w : World) (h : laws_long.f a0 = some r) :
    Calls Try.prog 5 #[.string a0] w fun e w' => e = .returned (.bool r) ∧ Drawn0 w w' := by
  have H : (some (decide ((a0.size : Int) > 4096))) = some r := h
  clear h
  obtain rfl := Option.some.inj H
  go_enter Try.func5, Try.ntmps5
  go_wp2
  go_ret
  exact ⟨by first | rfl | (simp; done) | (simp [*]; done), by repeat (first | exact Drawn0.refl _ | apply Drawn0.step)⟩

/-! ### laws_at: function 6 -/
def laws_at.l0 : Nat → ByteArray → ByteArray → Int → Option (Int)
  | 0, _, _, _ => none
  | k + 1, x0, x1, x7 => if (wrap64 (x7 + (x1.size : Int))) ≤ (x0.size : Int) then (if 0 ≤ x7 then (if x7 ≤ (wrap64 (x7 + (x1.size : Int))) then (if (x0.extract (x7 : Int).toNat ((wrap64 (x7 + (x1.size : Int))) : Int).toNat).toList = x1.toList then (some x7) else (laws_at.l0 k x0 x1 (wrap64 (x7 + 1)))) else (none)) else (none)) else (some (-1))
def laws_at.f (k : Nat) (a0 : ByteArray) (a1 : ByteArray) (a2 : Int) : Option (Int) := laws_at.l0 k a0 a1 a2
theorem laws_at.mono_l : ∀ k, (∀ y0 y1 y2, LeO (laws_at.l0 k y0 y1 y2) (laws_at.l0 (k + 1) y0 y1 y2))
  | 0 => fun _ _ _ r h => by simp [laws_at.l0] at h
  | k + 1 => by
    have ih0 := laws_at.mono_l k
    · intro y0 y1 y2
      unfold laws_at.l0
      repeat' first
      | (with_reducible exact ih0 _ _ _)
      | (with_reducible exact LeO.refl _)
      | (with_reducible exact LeO.none _)
      | (with_reducible refine LeO.ite ?_ ?_)
      | (with_reducible refine LeO.bind ?_ (fun _ => ?_))
      | exact ih0 _ _ _
      | exact LeO.none _
      | refine LeO.ite ?_ ?_
      | refine LeO.bind ?_ (fun _ => ?_)
theorem laws_at.mono : ∀ a0 a1 a2 k, LeO (laws_at.f k a0 a1 a2) (laws_at.f (k + 1) a0 a1 a2) := by
  intro a0 a1 a2 k
  have ih0 := laws_at.mono_l k
  unfold laws_at.f
  repeat' first
      | (with_reducible exact ih0 _ _ _)
      | (with_reducible exact LeO.refl _)
      | (with_reducible exact LeO.none _)
      | (with_reducible refine LeO.ite ?_ ?_)
      | (with_reducible refine LeO.bind ?_ (fun _ => ?_))
      | exact ih0 _ _ _
      | exact LeO.none _
      | refine LeO.ite ?_ ?_
      | refine LeO.bind ?_ (fun _ => ?_)
set_option maxHeartbeats 8000000 in
set_option maxRecDepth 100000 in
theorem laws_at.calls (k : Nat) (a0 : ByteArray) (a1 : ByteArray) (a2 : Int) (r : Int) (w : World) (h : laws_at.f k a0 a1 a2 = some r) :
    Calls Try.prog 6 #[.string a0, .string a1, .int .i64 a2] w fun e w' => e = .returned (.int .i64 r) ∧ Drawn0 w w' := by
  have H : (laws_at.l0 k a0 a1 a2) = some r := h
  clear h
  have H' := Aside0.mk H
  clear H
  go_enter Try.func6, Try.ntmps6
  go_wp2
  go_loopg [7] k (fun kq v7 w' => ∃ (x7_1 : Int), v7 = .int .i64 x7_1 ∧ Aside0 (laws_at.l0 kq a0 a1 x7_1 = some r) ∧ Aside0 (kq ≤ k) ∧ Drawn0 w w')
  case atStart => exact ⟨(a2), (by first | rfl | (simp; done) | (simp [*]; done)), H', ⟨Nat.le_refl _⟩, by repeat (first | exact Drawn0.refl _ | apply Drawn0.step)⟩
  case round =>
    clear H'
    try clear p2
    obtain ⟨x7_1, rfl, HA, HK1, ⟨m1, rfl⟩⟩ := hrel
    cases gk with
    | zero => exact absurd HA.out (by simp [laws_at.l0])
    | succ k1 =>
      have H := HA.out
      clear HA
      simp only [laws_at.l0] at H
      by_cases c4 : (wrap64 (x7_1 + (a1.size : Int))) ≤ (a0.size : Int)
      · rw [if_pos c4] at H
        have c4b0 : decide ((wrap64 (x7_1 + (a1.size : Int))) ≤ (a0.size : Int)) = true := decide_eq_true c4
        clear c4
        by_cases c5 : 0 ≤ x7_1
        · rw [if_pos c5] at H
          have c5b0 := eq_true c5
          have c5b1 : decide (0 ≤ x7_1) = true := decide_eq_true c5
          clear c5
          by_cases c6 : x7_1 ≤ (wrap64 (x7_1 + (a1.size : Int)))
          · rw [if_pos c6] at H
            have c6b0 := eq_true c6
            have c6b1 : decide (x7_1 ≤ (wrap64 (x7_1 + (a1.size : Int)))) = true := decide_eq_true c6
            have c7b0 := eq_true (of_decide_eq_true (by first | (with_reducible assumption) | assumption) : (wrap64 (x7_1 + (a1.size : Int))) ≤ (a0.size : Int))
            by_cases c8 : (a0.extract (x7_1 : Int).toNat ((wrap64 (x7_1 + (a1.size : Int))) : Int).toNat).toList = a1.toList
            · rw [if_pos c8] at H
              have c8b0 : ((a0.extract (x7_1 : Int).toNat ((wrap64 (x7_1 + (a1.size : Int))) : Int).toNat).toList == a1.toList) = true := beq_iff_eq.mpr c8
              have c8b1 : ((a0.extract (x7_1 : Int).toNat ((wrap64 (x7_1 + (a1.size : Int))) : Int).toNat).toList != a1.toList) = false := bne_eq_false_iff_eq.mpr c8
              clear c8
              obtain rfl := Option.some.inj H
              go_wp2
              go_ret
              exact ⟨by first | rfl | (simp; done) | (simp [*]; done), by repeat (first | exact Drawn0.refl _ | apply Drawn0.step)⟩
            · rw [if_neg c8] at H
              have c8b0 : ((a0.extract (x7_1 : Int).toNat ((wrap64 (x7_1 + (a1.size : Int))) : Int).toNat).toList == a1.toList) = false := beq_eq_false_iff_ne.mpr c8
              have c8b1 : ((a0.extract (x7_1 : Int).toNat ((wrap64 (x7_1 + (a1.size : Int))) : Int).toNat).toList != a1.toList) = true := bne_iff_ne.mpr c8
              have H' := Aside0.mk H
              clear H
              go_wp2
              go_roundg k1
              case measure => have := HK1.out; omega
              case rel => exact ⟨(wrap64 (x7_1 + 1)), (by first | rfl | (simp; done) | (simp [*]; done)), H', ⟨by have := HK1.out; omega⟩, by repeat (first | exact Drawn0.refl _ | apply Drawn0.step)⟩
          · rw [if_neg c6] at H
            exact absurd H (by simp)
        · rw [if_neg c5] at H
          exact absurd H (by simp)
      · rw [if_neg c4] at H
        have c4b0 : decide ((wrap64 (x7_1 + (a1.size : Int))) ≤ (a0.size : Int)) = false := decide_eq_false c4
        clear c4
        obtain rfl := Option.some.inj H
        go_wp2
        go_ret
        exact ⟨by first | rfl | (simp; done) | (simp [*]; done), by repeat (first | exact Drawn0.refl _ | apply Drawn0.step)⟩

/-! ### laws_FnLastPartition: function 3 -/
mutual
def laws_FnLastPartition.j0 : Nat → ByteArray → ByteArray → Bool → Option (Bool)
  | 0, _, _, _ => none
  | k + 1, x0, x1, x20 => if x20 = true then (some true) else ((impl_LastPartition.f k (⟨#[104, 101, 108, 108, 111]⟩ : ByteArray) (⟨#[108]⟩ : ByteArray)).bind fun bt105 => (if bt105.1.toList = ([104, 101, 108] : List UInt8) then (if bt105.2.1.toList = ([108] : List UInt8) then (laws_FnLastPartition.j1 k x0 x1 (bt105.2.2.toList != ([111] : List UInt8))) else (laws_FnLastPartition.j1 k x0 x1 true)) else (laws_FnLastPartition.j1 k x0 x1 true)))
def laws_FnLastPartition.j1 : Nat → ByteArray → ByteArray → Bool → Option (Bool)
  | 0, _, _, _ => none
  | k + 1, x0, x1, x35 => if x35 = true then (some false) else ((laws_long.f x0).bind fun t108 => (if t108 = true then (laws_FnLastPartition.j2 k x0 x1 true) else ((laws_long.f x1).bind fun t109 => (if t109 = true then (laws_FnLastPartition.j2 k x0 x1 true) else (laws_FnLastPartition.j2 k x0 x1 (x1.toList == ([] : List UInt8)))))))
def laws_FnLastPartition.j2 : Nat → ByteArray → ByteArray → Bool → Option (Bool)
  | 0, _, _, _ => none
  | k + 1, x0, x1, x45 => if x45 = true then (some true) else ((impl_LastPartition.f k x0 x1).bind fun bt110 => ((laws_at.f k x0 x1 0).bind fun t113 => (laws_FnLastPartition.l0 k x0 x1 bt110.1 bt110.2.1 bt110.2.2 (-1) t113)))
def laws_FnLastPartition.l0 : Nat → ByteArray → ByteArray → ByteArray → ByteArray → ByteArray → Int → Int → Option (Bool)
  | 0, _, _, _, _, _, _, _ => none
  | k + 1, x0, x1, x8, x9, x10, x11, x12 => if x12 ≥ 0 then ((laws_at.f k x0 x1 (wrap64 (x12 + 1))).bind fun t114 => (laws_FnLastPartition.l0 k x0 x1 x8 x9 x10 x12 t114)) else (if x11 < 0 then (if x8.toList = ([] : List UInt8) then (if x9.toList = ([] : List UInt8) then (some (x10.toList == x0.toList)) else (some false)) else (some false)) else (if 0 ≤ x11 then (if x11 ≤ (x0.size : Int) then (if x8.toList = (x0.extract 0 (x11 : Int).toNat).toList then (if x9.toList = x1.toList then (if 0 ≤ (wrap64 (x11 + (x1.size : Int))) then (if (wrap64 (x11 + (x1.size : Int))) ≤ (x0.size : Int) then (some (x10.toList == (x0.extract ((wrap64 (x11 + (x1.size : Int))) : Int).toNat x0.size).toList)) else (none)) else (none)) else (some false)) else (some false)) else (none)) else (none)))
end
def laws_FnLastPartition.f (k : Nat) (a0 : ByteArray) (a1 : ByteArray) : Option (Bool) := if (a0.size : Int) > 2147483647 then (laws_FnLastPartition.j0 k a0 a1 true) else (laws_FnLastPartition.j0 k a0 a1 (decide ((a1.size : Int) > 2147483647)))
theorem laws_FnLastPartition.mono_l : ∀ k, (∀ y0 y1 y2, LeO (laws_FnLastPartition.j0 k y0 y1 y2) (laws_FnLastPartition.j0 (k + 1) y0 y1 y2)) ∧ (∀ y0 y1 y2, LeO (laws_FnLastPartition.j1 k y0 y1 y2) (laws_FnLastPartition.j1 (k + 1) y0 y1 y2)) ∧ (∀ y0 y1 y2, LeO (laws_FnLastPartition.j2 k y0 y1 y2) (laws_FnLastPartition.j2 (k + 1) y0 y1 y2)) ∧ (∀ y0 y1 y2 y3 y4 y5 y6, LeO (laws_FnLastPartition.l0 k y0 y1 y2 y3 y4 y5 y6) (laws_FnLastPartition.l0 (k + 1) y0 y1 y2 y3 y4 y5 y6))
  | 0 => ⟨fun _ _ _ r h => by simp [laws_FnLastPartition.j0] at h, fun _ _ _ r h => by simp [laws_FnLastPartition.j1] at h, fun _ _ _ r h => by simp [laws_FnLastPartition.j2] at h, fun _ _ _ _ _ _ _ r h => by simp [laws_FnLastPartition.l0] at h⟩
  | k + 1 => by
    obtain ⟨ih0, ih1, ih2, ih3⟩ := laws_FnLastPartition.mono_l k
    refine ⟨?_, ?_, ?_, ?_⟩
    · intro y0 y1 y2
      unfold laws_FnLastPartition.j0
      repeat' first
      | (with_reducible exact ih0 _ _ _)
      | (with_reducible exact ih1 _ _ _)
      | (with_reducible exact ih2 _ _ _)
      | (with_reducible exact ih3 _ _ _ _ _ _ _)
      | (with_reducible exact impl_LastPartition.mono _ _ _)
      | (with_reducible exact laws_at.mono _ _ _ _)
      | (with_reducible exact LeO.refl _)
      | (with_reducible exact LeO.none _)
      | (with_reducible refine LeO.ite ?_ ?_)
      | (with_reducible refine LeO.bind ?_ (fun _ => ?_))
      | exact ih0 _ _ _
      | exact ih1 _ _ _
      | exact ih2 _ _ _
      | exact ih3 _ _ _ _ _ _ _
      | exact impl_LastPartition.mono _ _ _
      | exact laws_at.mono _ _ _ _
      | exact LeO.none _
      | refine LeO.ite ?_ ?_
      | refine LeO.bind ?_ (fun _ => ?_)
    · intro y0 y1 y2
      unfold laws_FnLastPartition.j1
      repeat' first
      | (with_reducible exact ih0 _ _ _)
      | (with_reducible exact ih1 _ _ _)
      | (with_reducible exact ih2 _ _ _)
      | (with_reducible exact ih3 _ _ _ _ _ _ _)
      | (with_reducible exact impl_LastPartition.mono _ _ _)
      | (with_reducible exact laws_at.mono _ _ _ _)
      | (with_reducible exact LeO.refl _)
      | (with_reducible exact LeO.none _)
      | (with_reducible refine LeO.ite ?_ ?_)
      | (with_reducible refine LeO.bind ?_ (fun _ => ?_))
      | exact ih0 _ _ _
      | exact ih1 _ _ _
      | exact ih2 _ _ _
      | exact ih3 _ _ _ _ _ _ _
      | exact impl_LastPartition.mono _ _ _
      | exact laws_at.mono _ _ _ _
      | exact LeO.none _
      | refine LeO.ite ?_ ?_
      | refine LeO.bind ?_ (fun _ => ?_)
    · intro y0 y1 y2
      unfold laws_FnLastPartition.j2
      repeat' first
      | (with_reducible exact ih0 _ _ _)
      | (with_reducible exact ih1 _ _ _)
      | (with_reducible exact ih2 _ _ _)
      | (with_reducible exact ih3 _ _ _ _ _ _ _)
      | (with_reducible exact impl_LastPartition.mono _ _ _)
      | (with_reducible exact laws_at.mono _ _ _ _)
      | (with_reducible exact LeO.refl _)
      | (with_reducible exact LeO.none _)
      | (with_reducible refine LeO.ite ?_ ?_)
      | (with_reducible refine LeO.bind ?_ (fun _ => ?_))
      | exact ih0 _ _ _
      | exact ih1 _ _ _
      | exact ih2 _ _ _
      | exact ih3 _ _ _ _ _ _ _
      | exact impl_LastPartition.mono _ _ _
      | exact laws_at.mono _ _ _ _
      | exact LeO.none _
      | refine LeO.ite ?_ ?_
      | refine LeO.bind ?_ (fun _ => ?_)
    · intro y0 y1 y2 y3 y4 y5 y6
      unfold laws_FnLastPartition.l0
      repeat' first
      | (with_reducible exact ih0 _ _ _)
      | (with_reducible exact ih1 _ _ _)
      | (with_reducible exact ih2 _ _ _)
      | (with_reducible exact ih3 _ _ _ _ _ _ _)
      | (with_reducible exact impl_LastPartition.mono _ _ _)
      | (with_reducible exact laws_at.mono _ _ _ _)
      | (with_reducible exact LeO.refl _)
      | (with_reducible exact LeO.none _)
      | (with_reducible refine LeO.ite ?_ ?_)
      | (with_reducible refine LeO.bind ?_ (fun _ => ?_))
      | exact ih0 _ _ _
      | exact ih1 _ _ _
      | exact ih2 _ _ _
      | exact ih3 _ _ _ _ _ _ _
      | exact impl_LastPartition.mono _ _ _
      | exact laws_at.mono _ _ _ _
      | exact LeO.none _
      | refine LeO.ite ?_ ?_
      | refine LeO.bind ?_ (fun _ => ?_)
theorem laws_FnLastPartition.mono : ∀ a0 a1 k, LeO (laws_FnLastPartition.f k a0 a1) (laws_FnLastPartition.f (k + 1) a0 a1) := by
  intro a0 a1 k
  obtain ⟨ih0, ih1, ih2, ih3⟩ := laws_FnLastPartition.mono_l k
  unfold laws_FnLastPartition.f
  repeat' first
      | (with_reducible exact ih0 _ _ _)
      | (with_reducible exact ih1 _ _ _)
      | (with_reducible exact ih2 _ _ _)
      | (with_reducible exact ih3 _ _ _ _ _ _ _)
      | (with_reducible exact impl_LastPartition.mono _ _ _)
      | (with_reducible exact laws_at.mono _ _ _ _)
      | (with_reducible exact LeO.refl _)
      | (with_reducible exact LeO.none _)
      | (with_reducible refine LeO.ite ?_ ?_)
      | (with_reducible refine LeO.bind ?_ (fun _ => ?_))
      | exact ih0 _ _ _
      | exact ih1 _ _ _
      | exact ih2 _ _ _
      | exact ih3 _ _ _ _ _ _ _
      | exact impl_LastPartition.mono _ _ _
      | exact laws_at.mono _ _ _ _
      | exact LeO.none _
      | refine LeO.ite ?_ ?_
      | refine LeO.bind ?_ (fun _ => ?_)
set_option maxHeartbeats 8000000 in
set_option maxRecDepth 100000 in
theorem laws_FnLastPartition.calls (k : Nat) (a0 : ByteArray) (a1 : ByteArray) (r : Bool) (w : World) (h : laws_FnLastPartition.f k a0 a1 = some r) :
    Calls Try.prog 3 #[.string a0, .string a1] w fun e w' => e = .returned (.bool r) ∧ Drawn0 w w' := by
  have H : (if (a0.size : Int) > 2147483647 then (laws_FnLastPartition.j0 k a0 a1 true) else (laws_FnLastPartition.j0 k a0 a1 (decide ((a1.size : Int) > 2147483647)))) = some r := h
  clear h
  have HC3 := Aside0.mk H
  clear H
  go_enter Try.func3, Try.ntmps3
  go_upto_region 1 with (fail)
  go_cut [20] (fun v20 wc => ∃ (kq : Nat) (x20_2 : Bool), v20 = .bool x20_2 ∧ Aside0 (laws_FnLastPartition.j0 kq a0 a1 x20_2 = some r) ∧ Aside0 (kq ≤ k) ∧ Drawn0 w wc)
  case first =>
    have H := HC3.out
    clear HC3
    by_cases c4 : (a0.size : Int) > 2147483647
    · rw [if_pos c4] at H
      have c4b0 : decide (2147483647 < (a0.size : Int)) = true := decide_eq_true c4
      have c4b1 : decide (2147483647 < a0.size) = true := decide_eq_true (by omega)
      clear c4
      (first | rw [c4b0] | (simp only [i64_w, i32_w]; rw [c4b0]) | skip)
      have H' := Aside0.mk H
      clear H
      go_wp2
      go_meet
      case rel => exact ⟨_, (true), (by first | rfl | (simp; done) | (simp [*]; done)), H', ⟨by first | omega | exact Nat.le_refl _⟩, by repeat (first | exact Drawn0.refl _ | apply Drawn0.step)⟩
    · rw [if_neg c4] at H
      have c4b0 : decide (2147483647 < (a0.size : Int)) = false := decide_eq_false c4
      have c4b1 : decide (2147483647 < a0.size) = false := decide_eq_false (by omega)
      clear c4
      (first | rw [c4b0] | (simp only [i64_w, i32_w]; rw [c4b0]) | skip)
      have H' := Aside0.mk H
      clear H
      go_wp2
      go_meet
      case rel => exact ⟨_, (decide ((a1.size : Int) > 2147483647)), (by first | rfl | (simp; done) | (simp [*]; done)), H', ⟨by first | omega | exact Nat.le_refl _⟩, by repeat (first | exact Drawn0.refl _ | apply Drawn0.step)⟩
  case rest =>
    clear HC3
    try clear p2
    try clear c3
    try clear c4
    try clear c4b0
    try clear c4b1
    obtain ⟨kq, x20_2, rfl, HA, HJ2, ⟨mc2, rfl⟩⟩ := hcut
    cases kq with
    | zero => exact absurd HA.out (by simp [laws_FnLastPartition.j0])
    | succ kj2 =>
      have H := HA.out
      clear HA
      simp only [laws_FnLastPartition.j0] at H
      by_cases c5 : x20_2 = true
      · subst c5
        have H1 : (some true) = some r := by rw [if_pos rfl] at H; exact H
        clear H
        have H := H1
        clear H1
        obtain rfl := Option.some.inj H
        go_wp2
        go_ret
        exact ⟨by first | rfl | (simp; done) | (simp [*]; done), by repeat (first | exact Drawn0.refl _ | apply Drawn0.step)⟩
      · replace c5 := Bool.eq_false_iff.mpr c5
        subst c5
        have H1 : ((impl_LastPartition.f kj2 (⟨#[104, 101, 108, 108, 111]⟩ : ByteArray) (⟨#[108]⟩ : ByteArray)).bind fun bt105 => (if bt105.1.toList = ([104, 101, 108] : List UInt8) then (if bt105.2.1.toList = ([108] : List UInt8) then (laws_FnLastPartition.j1 kj2 a0 a1 (bt105.2.2.toList != ([111] : List UInt8))) else (laws_FnLastPartition.j1 kj2 a0 a1 true)) else (laws_FnLastPartition.j1 kj2 a0 a1 true))) = some r := by rw [if_neg (show ¬ (false = true) by decide)] at H; exact H
        clear H
        have H := H1
        clear H1
        replace H := Option.bind_eq_some_iff.mp H
        obtain ⟨⟨t105, t106, t107⟩, A60, H⟩ := H
        replace H : (if t105.toList = ([104, 101, 108] : List UInt8) then (if t106.toList = ([108] : List UInt8) then (laws_FnLastPartition.j1 kj2 a0 a1 (t107.toList != ([111] : List UInt8))) else (laws_FnLastPartition.j1 kj2 a0 a1 true)) else (laws_FnLastPartition.j1 kj2 a0 a1 true)) = some r := H
        have A6 := Aside0.mk A60
        clear A60
        have HC7 := Aside0.mk H
        clear H
        go_upto_region 4 with (first | ((with_reducible refine gate_callee (f := 4) rfl ?_); refine goesL_ (some 22) rfl rfl Try.func4 (by kernel_rfl) rfl #[.string (⟨#[104, 101, 108, 108, 111]⟩ : ByteArray), .string (⟨#[108]⟩ : ByteArray)] rfl (by (try simp only [List.map_toArray, List.map_cons, List.map_nil]); first | done | rfl | (simp only [List.length_drop, List.length_take]; rfl)) ?_; (with_reducible refine (impl_LastPartition.calls kj2 (⟨#[104, 101, 108, 108, 111]⟩ : ByteArray) (⟨#[108]⟩ : ByteArray) t105 t106 t107 _ A6.out).mono ?_); rintro e w' ⟨rfl, ⟨nd, rfl⟩⟩; refine ⟨_, rfl, ?_⟩))
        (try simp only [Act.put, List.setIfInBounds_toArray, List.set_cons_zero, List.set_cons_succ])
        go_cut [35] (fun v35 wc => ∃ (kq : Nat) (x35_6 : Bool), v35 = .bool x35_6 ∧ Aside0 (laws_FnLastPartition.j1 kq a0 a1 x35_6 = some r) ∧ Aside0 (kq ≤ kj2) ∧ Drawn0 w wc)
        case first =>
          have H := HC7.out
          clear HC7
          by_cases c8 : t105.toList = ([104, 101, 108] : List UInt8)
          · rw [if_pos c8] at H
            have c8b0 : (t105.toList == ([104, 101, 108] : List UInt8)) = true := beq_iff_eq.mpr c8
            have c8b1 : (t105.toList != ([104, 101, 108] : List UInt8)) = false := bne_eq_false_iff_eq.mpr c8
            clear c8
            (first | rw [c8b0] | (simp only [i64_w, i32_w]; rw [c8b0]) | skip)
            by_cases c9 : t106.toList = ([108] : List UInt8)
            · rw [if_pos c9] at H
              have c9b0 : (t106.toList == ([108] : List UInt8)) = true := beq_iff_eq.mpr c9
              have c9b1 : (t106.toList != ([108] : List UInt8)) = false := bne_eq_false_iff_eq.mpr c9
              clear c9
              have H' := Aside0.mk H
              clear H
              go_wp2
              go_meet
              case rel => exact ⟨_, ((t107.toList != ([111] : List UInt8))), (by first | rfl | (simp; done) | (simp [*]; done)), H', ⟨by have := HJ2.out; first | omega | exact Nat.le_refl _⟩, by repeat (first | exact Drawn0.refl _ | apply Drawn0.step)⟩
            · rw [if_neg c9] at H
              have c9b0 : (t106.toList == ([108] : List UInt8)) = false := beq_eq_false_iff_ne.mpr c9
              have c9b1 : (t106.toList != ([108] : List UInt8)) = true := bne_iff_ne.mpr c9
              have H' := Aside0.mk H
              clear H
              go_wp2
              go_meet
              case rel => exact ⟨_, (true), (by first | rfl | (simp; done) | (simp [*]; done)), H', ⟨by have := HJ2.out; first | omega | exact Nat.le_refl _⟩, by repeat (first | exact Drawn0.refl _ | apply Drawn0.step)⟩
          · rw [if_neg c8] at H
            have c8b0 : (t105.toList == ([104, 101, 108] : List UInt8)) = false := beq_eq_false_iff_ne.mpr c8
            have c8b1 : (t105.toList != ([104, 101, 108] : List UInt8)) = true := bne_iff_ne.mpr c8
            (first | rw [c8b0] | (simp only [i64_w, i32_w]; rw [c8b0]) | skip)
            have H' := Aside0.mk H
            clear H
            go_wp2
            go_meet
            case rel => exact ⟨_, (true), (by first | rfl | (simp; done) | (simp [*]; done)), H', ⟨by have := HJ2.out; first | omega | exact Nat.le_refl _⟩, by repeat (first | exact Drawn0.refl _ | apply Drawn0.step)⟩
        case rest =>
          clear HC7
          try clear c2
          try clear p2
          try clear c3
          try clear c4
          try clear c4b0
          try clear c4b1
          try clear c5
          try clear c8
          try clear c8b0
          try clear c8b1
          try clear c9
          try clear c9b0
          try clear c9b1
          try clear p2
          obtain ⟨kq, x35_6, rfl, HA, HJ6, ⟨mc6, rfl⟩⟩ := hcut
          cases kq with
          | zero => exact absurd HA.out (by simp [laws_FnLastPartition.j1])
          | succ kj6 =>
            have H := HA.out
            clear HA
            simp only [laws_FnLastPartition.j1] at H
            by_cases c10 : x35_6 = true
            · subst c10
              have H1 : (some false) = some r := by rw [if_pos rfl] at H; exact H
              clear H
              have H := H1
              clear H1
              obtain rfl := Option.some.inj H
              go_wp2
              go_ret
              exact ⟨by first | rfl | (simp; done) | (simp [*]; done), by repeat (first | exact Drawn0.refl _ | apply Drawn0.step)⟩
            · replace c10 := Bool.eq_false_iff.mpr c10
              subst c10
              have H1 : ((laws_long.f a0).bind fun t108 => (if t108 = true then (laws_FnLastPartition.j2 kj6 a0 a1 true) else ((laws_long.f a1).bind fun t109 => (if t109 = true then (laws_FnLastPartition.j2 kj6 a0 a1 true) else (laws_FnLastPartition.j2 kj6 a0 a1 (a1.toList == ([] : List UInt8))))))) = some r := by rw [if_neg (show ¬ (false = true) by decide)] at H; exact H
              clear H
              have H := H1
              clear H1
              have HC11 := Aside0.mk H
              clear H
              go_upto_region 6 with (fail)
              go_cut [45] (fun v45 wc => ∃ (kq : Nat) (x45_10 : Bool), v45 = .bool x45_10 ∧ Aside0 (laws_FnLastPartition.j2 kq a0 a1 x45_10 = some r) ∧ Aside0 (kq ≤ kj6) ∧ Drawn0 w wc)
              case first =>
                have H := HC11.out
                clear HC11
                replace H := Option.bind_eq_some_iff.mp H
                obtain ⟨t108, A120, H⟩ := H
                replace H : (if t108 = true then (laws_FnLastPartition.j2 kj6 a0 a1 true) else ((laws_long.f a1).bind fun t109 => (if t109 = true then (laws_FnLastPartition.j2 kj6 a0 a1 true) else (laws_FnLastPartition.j2 kj6 a0 a1 (a1.toList == ([] : List UInt8)))))) = some r := H
                have A12 := Aside0.mk A120
                clear A120
                by_cases c13 : t108 = true
                · subst c13
                  have H1 : (laws_FnLastPartition.j2 kj6 a0 a1 true) = some r := by rw [if_pos rfl] at H; exact H
                  clear H
                  have H := H1
                  clear H1
                  have H' := Aside0.mk H
                  clear H
                  go_wp2_with (first | ((with_reducible refine gate_callee (f := 5) rfl ?_); refine goesL_ (some 37) rfl rfl Try.func5 (by kernel_rfl) rfl #[.string a0] rfl (by (try simp only [List.map_toArray, List.map_cons, List.map_nil]); first | done | rfl | (simp only [List.length_drop, List.length_take]; rfl)) ?_; (with_reducible refine (laws_long.calls a0 true _ A12.out).mono ?_); rintro e w' ⟨rfl, ⟨nd, rfl⟩⟩; refine ⟨_, rfl, ?_⟩))
                  go_meet
                  case rel => exact ⟨_, (true), (by first | rfl | (simp; done) | (simp [*]; done)), H', ⟨by have := HJ2.out; have := HJ6.out; first | omega | exact Nat.le_refl _⟩, by repeat (first | exact Drawn0.refl _ | apply Drawn0.step)⟩
                · replace c13 := Bool.eq_false_iff.mpr c13
                  subst c13
                  have H1 : ((laws_long.f a1).bind fun t109 => (if t109 = true then (laws_FnLastPartition.j2 kj6 a0 a1 true) else (laws_FnLastPartition.j2 kj6 a0 a1 (a1.toList == ([] : List UInt8))))) = some r := by rw [if_neg (show ¬ (false = true) by decide)] at H; exact H
                  clear H
                  have H := H1
                  clear H1
                  replace H := Option.bind_eq_some_iff.mp H
                  obtain ⟨t109, A140, H⟩ := H
                  replace H : (if t109 = true then (laws_FnLastPartition.j2 kj6 a0 a1 true) else (laws_FnLastPartition.j2 kj6 a0 a1 (a1.toList == ([] : List UInt8)))) = some r := H
                  have A14 := Aside0.mk A140
                  clear A140
                  by_cases c15 : t109 = true
                  · subst c15
                    have H1 : (laws_FnLastPartition.j2 kj6 a0 a1 true) = some r := by rw [if_pos rfl] at H; exact H
                    clear H
                    have H := H1
                    clear H1
                    have H' := Aside0.mk H
                    clear H
                    go_wp2_with (first | ((with_reducible refine gate_callee (f := 5) rfl ?_); refine goesL_ (some 37) rfl rfl Try.func5 (by kernel_rfl) rfl #[.string a0] rfl (by (try simp only [List.map_toArray, List.map_cons, List.map_nil]); first | done | rfl | (simp only [List.length_drop, List.length_take]; rfl)) ?_; (with_reducible refine (laws_long.calls a0 false _ A12.out).mono ?_); rintro e w' ⟨rfl, ⟨nd, rfl⟩⟩; refine ⟨_, rfl, ?_⟩) | (go_at_call 5; (with_reducible refine (laws_long.calls a1 true _ A14.out).mono ?_); rintro e w' ⟨rfl, ⟨nd, rfl⟩⟩))
                    go_meet
                    case rel => exact ⟨_, (true), (by first | rfl | (simp; done) | (simp [*]; done)), H', ⟨by have := HJ2.out; have := HJ6.out; first | omega | exact Nat.le_refl _⟩, by repeat (first | exact Drawn0.refl _ | apply Drawn0.step)⟩
                  · replace c15 := Bool.eq_false_iff.mpr c15
                    subst c15
                    have H1 : (laws_FnLastPartition.j2 kj6 a0 a1 (a1.toList == ([] : List UInt8))) = some r := by rw [if_neg (show ¬ (false = true) by decide)] at H; exact H
                    clear H
                    have H := H1
                    clear H1
                    have H' := Aside0.mk H
                    clear H
                    go_wp2_with (first | ((with_reducible refine gate_callee (f := 5) rfl ?_); refine goesL_ (some 37) rfl rfl Try.func5 (by kernel_rfl) rfl #[.string a0] rfl (by (try simp only [List.map_toArray, List.map_cons, List.map_nil]); first | done | rfl | (simp only [List.length_drop, List.length_take]; rfl)) ?_; (with_reducible refine (laws_long.calls a0 false _ A12.out).mono ?_); rintro e w' ⟨rfl, ⟨nd, rfl⟩⟩; refine ⟨_, rfl, ?_⟩) | (go_at_call 5; (with_reducible refine (laws_long.calls a1 false _ A14.out).mono ?_); rintro e w' ⟨rfl, ⟨nd, rfl⟩⟩))
                    go_meet
                    case rel => exact ⟨_, ((a1.toList == ([] : List UInt8))), (by first | rfl | (simp; done) | (simp [*]; done)), H', ⟨by have := HJ2.out; have := HJ6.out; first | omega | exact Nat.le_refl _⟩, by repeat (first | exact Drawn0.refl _ | apply Drawn0.step)⟩
              case rest =>
                clear HC11
                try clear c1
                try clear c2
                try clear p2
                try clear c3
                try clear c4
                try clear c4b0
                try clear c4b1
                try clear c5
                try clear c6
                try clear c8
                try clear c8b0
                try clear c8b1
                try clear c9
                try clear c9b0
                try clear c9b1
                try clear c10
                try clear c13
                try clear c15
                try clear p2
                obtain ⟨kq, x45_10, rfl, HA, HJ10, ⟨mc10, rfl⟩⟩ := hcut
                cases kq with
                | zero => exact absurd HA.out (by simp [laws_FnLastPartition.j2])
                | succ kj10 =>
                  have H := HA.out
                  clear HA
                  simp only [laws_FnLastPartition.j2] at H
                  by_cases c16 : x45_10 = true
                  · subst c16
                    have H1 : (some true) = some r := by rw [if_pos rfl] at H; exact H
                    clear H
                    have H := H1
                    clear H1
                    obtain rfl := Option.some.inj H
                    go_wp2
                    go_ret
                    exact ⟨by first | rfl | (simp; done) | (simp [*]; done), by repeat (first | exact Drawn0.refl _ | apply Drawn0.step)⟩
                  · replace c16 := Bool.eq_false_iff.mpr c16
                    subst c16
                    have H1 : ((impl_LastPartition.f kj10 a0 a1).bind fun bt110 => ((laws_at.f kj10 a0 a1 0).bind fun t113 => (laws_FnLastPartition.l0 kj10 a0 a1 bt110.1 bt110.2.1 bt110.2.2 (-1) t113))) = some r := by rw [if_neg (show ¬ (false = true) by decide)] at H; exact H
                    clear H
                    have H := H1
                    clear H1
                    replace H := Option.bind_eq_some_iff.mp H
                    obtain ⟨⟨t110, t111, t112⟩, A170, H⟩ := H
                    replace H : ((laws_at.f kj10 a0 a1 0).bind fun t113 => (laws_FnLastPartition.l0 kj10 a0 a1 t110 t111 t112 (-1) t113)) = some r := H
                    have A17 := Aside0.mk A170
                    clear A170
                    replace H := Option.bind_eq_some_iff.mp H
                    obtain ⟨t113, A180, H⟩ := H
                    replace H : (laws_FnLastPartition.l0 kj10 a0 a1 t110 t111 t112 (-1) t113) = some r := H
                    have A18 := Aside0.mk A180
                    clear A180
                    have H' := Aside0.mk H
                    clear H
                    go_wp2_with (first | ((with_reducible refine gate_callee (f := 4) rfl ?_); refine goesL_ (some 49) rfl rfl Try.func4 (by kernel_rfl) rfl #[.string a0, .string a1] rfl (by (try simp only [List.map_toArray, List.map_cons, List.map_nil]); first | done | rfl | (simp only [List.length_drop, List.length_take]; rfl)) ?_; (with_reducible refine (impl_LastPartition.calls kj10 a0 a1 t110 t111 t112 _ A17.out).mono ?_); rintro e w' ⟨rfl, ⟨nd, rfl⟩⟩; refine ⟨_, rfl, ?_⟩) | ((with_reducible refine gate_callee (f := 6) rfl ?_); refine goesL_ (some 55) rfl rfl Try.func6 (by kernel_rfl) rfl #[.string a0, .string a1, .int .i64 0] rfl (by (try simp only [List.map_toArray, List.map_cons, List.map_nil]); first | done | rfl | (simp only [List.length_drop, List.length_take]; rfl)) ?_; (with_reducible refine (laws_at.calls kj10 a0 a1 0 t113 _ A18.out).mono ?_); rintro e w' ⟨rfl, ⟨nd, rfl⟩⟩; refine ⟨_, rfl, ?_⟩))
                    go_loopg [11, 12] kj10 (fun kq v11 v12 w' => ∃ (x11_4 : Int) (x12_4 : Int), v11 = .int .i64 x11_4 ∧ v12 = .int .i64 x12_4 ∧ Aside0 (laws_FnLastPartition.l0 kq a0 a1 t110 t111 t112 x11_4 x12_4 = some r) ∧ Aside0 (kq ≤ kj10) ∧ Drawn0 w w')
                    case atStart => exact ⟨((-1)), (t113), (by first | rfl | (simp; done) | (simp [*]; done)), (by first | rfl | (simp; done) | (simp [*]; done)), H', ⟨Nat.le_refl _⟩, by repeat (first | exact Drawn0.refl _ | apply Drawn0.step)⟩
                    case round =>
                      clear H'
                      try clear c1
                      try clear c2
                      try clear p2
                      try clear c3
                      try clear c4
                      try clear c4b0
                      try clear c4b1
                      try clear c5
                      try clear c6
                      try clear c8
                      try clear c8b0
                      try clear c8b1
                      try clear c9
                      try clear c9b0
                      try clear c9b1
                      try clear c10
                      try clear c13
                      try clear c15
                      try clear c16
                      try clear p2
                      obtain ⟨x11_4, x12_4, rfl, rfl, HA, HK4, ⟨m4, rfl⟩⟩ := hrel
                      cases gk with
                      | zero => exact absurd HA.out (by simp [laws_FnLastPartition.l0])
                      | succ k4 =>
                        have H := HA.out
                        clear HA
                        simp only [laws_FnLastPartition.l0] at H
                        by_cases c19 : x12_4 ≥ 0
                        · rw [if_pos c19] at H
                          have c19b0 : decide (0 ≤ x12_4) = true := decide_eq_true c19
                          clear c19
                          replace H := Option.bind_eq_some_iff.mp H
                          obtain ⟨t114, A200, H⟩ := H
                          replace H : (laws_FnLastPartition.l0 k4 a0 a1 t110 t111 t112 x12_4 t114) = some r := H
                          have A20 := Aside0.mk A200
                          clear A200
                          have H' := Aside0.mk H
                          clear H
                          go_wp2_with (first | ((with_reducible refine gate_callee (f := 6) rfl ?_); refine goesL_ (some 62) rfl rfl Try.func6 (by kernel_rfl) rfl #[.string a0, .string a1, .int .i64 (wrap64 (x12_4 + 1))] rfl (by (try simp only [List.map_toArray, List.map_cons, List.map_nil]); first | done | rfl | (simp only [List.length_drop, List.length_take]; rfl)) ?_; (with_reducible refine (laws_at.calls k4 a0 a1 (wrap64 (x12_4 + 1)) t114 _ A20.out).mono ?_); rintro e w' ⟨rfl, ⟨nd, rfl⟩⟩; refine ⟨_, rfl, ?_⟩))
                          go_roundg k4
                          case measure => have := HJ2.out; have := HJ6.out; have := HJ10.out; have := HK4.out; omega
                          case rel => exact ⟨(x12_4), (t114), (by first | rfl | (simp; done) | (simp [*]; done)), (by first | rfl | (simp; done) | (simp [*]; done)), H', ⟨by have := HJ2.out; have := HJ6.out; have := HJ10.out; have := HK4.out; omega⟩, by repeat (first | exact Drawn0.refl _ | apply Drawn0.step)⟩
                        · rw [if_neg c19] at H
                          have c19b0 : decide (0 ≤ x12_4) = false := decide_eq_false c19
                          clear c19
                          by_cases c21 : x11_4 < 0
                          · rw [if_pos c21] at H
                            have c21b0 : decide (x11_4 < 0) = true := decide_eq_true c21
                            clear c21
                            by_cases c22 : t110.toList = ([] : List UInt8)
                            · rw [if_pos c22] at H
                              have c22b0 : (t110.toList == ([] : List UInt8)) = true := beq_iff_eq.mpr c22
                              have c22b1 : (t110.toList != ([] : List UInt8)) = false := bne_eq_false_iff_eq.mpr c22
                              clear c22
                              by_cases c23 : t111.toList = ([] : List UInt8)
                              · rw [if_pos c23] at H
                                have c23b0 : (t111.toList == ([] : List UInt8)) = true := beq_iff_eq.mpr c23
                                have c23b1 : (t111.toList != ([] : List UInt8)) = false := bne_eq_false_iff_eq.mpr c23
                                clear c23
                                obtain rfl := Option.some.inj H
                                go_wp2
                                go_ret
                                exact ⟨by first | rfl | (simp; done) | (simp [*]; done), by repeat (first | exact Drawn0.refl _ | apply Drawn0.step)⟩
                              · rw [if_neg c23] at H
                                have c23b0 : (t111.toList == ([] : List UInt8)) = false := beq_eq_false_iff_ne.mpr c23
                                have c23b1 : (t111.toList != ([] : List UInt8)) = true := bne_iff_ne.mpr c23
                                obtain rfl := Option.some.inj H
                                go_wp2
                                go_ret
                                exact ⟨by first | rfl | (simp; done) | (simp [*]; done), by repeat (first | exact Drawn0.refl _ | apply Drawn0.step)⟩
                            · rw [if_neg c22] at H
                              have c22b0 : (t110.toList == ([] : List UInt8)) = false := beq_eq_false_iff_ne.mpr c22
                              have c22b1 : (t110.toList != ([] : List UInt8)) = true := bne_iff_ne.mpr c22
                              obtain rfl := Option.some.inj H
                              go_wp2
                              go_ret
                              exact ⟨by first | rfl | (simp; done) | (simp [*]; done), by repeat (first | exact Drawn0.refl _ | apply Drawn0.step)⟩
                          · rw [if_neg c21] at H
                            have c21b0 : decide (x11_4 < 0) = false := decide_eq_false c21
                            clear c21
                            by_cases c24 : 0 ≤ x11_4
                            · rw [if_pos c24] at H
                              have c24b0 := eq_true c24
                              have c24b1 : decide (0 ≤ x11_4) = true := decide_eq_true c24
                              clear c24
                              by_cases c25 : x11_4 ≤ (a0.size : Int)
                              · rw [if_pos c25] at H
                                have c25b0 := eq_true c25
                                have c25b1 : decide (x11_4 ≤ (a0.size : Int)) = true := decide_eq_true c25
                                clear c25
                                by_cases c26 : t110.toList = (a0.extract 0 (x11_4 : Int).toNat).toList
                                · rw [if_pos c26] at H
                                  have c26b0 : (t110.toList == (a0.extract 0 (x11_4 : Int).toNat).toList) = true := beq_iff_eq.mpr c26
                                  have c26b1 : (t110.toList != (a0.extract 0 (x11_4 : Int).toNat).toList) = false := bne_eq_false_iff_eq.mpr c26
                                  clear c26
                                  by_cases c27 : t111.toList = a1.toList
                                  · rw [if_pos c27] at H
                                    have c27b0 : (t111.toList == a1.toList) = true := beq_iff_eq.mpr c27
                                    have c27b1 : (t111.toList != a1.toList) = false := bne_eq_false_iff_eq.mpr c27
                                    clear c27
                                    obtain ⟨ji28, hji28⟩ : ∃ j_ : Int, (wrap64 (x11_4 + (a1.size : Int))) = j_ := ⟨_, rfl⟩
                                    replace H : (if 0 ≤ (ji28) then (if (ji28) ≤ (a0.size : Int) then (some (t112.toList == (a0.extract ((ji28) : Int).toNat a0.size).toList)) else (none)) else (none)) = some r := by first | (rw [hji28] at H; exact H) | (simp only [hji28] at H ⊢; exact H)
                                    have hji28w : (IntKind.i64.wrap (x11_4 + (a1.size : Int))) = ji28 := (i64_w _).trans hji28
                                    by_cases c29 : 0 ≤ (ji28)
                                    · rw [if_pos c29] at H
                                      have c29b0 := eq_true c29
                                      have c29b1 : decide (0 ≤ (ji28)) = true := decide_eq_true c29
                                      clear c29
                                      by_cases c30 : (ji28) ≤ (a0.size : Int)
                                      · rw [if_pos c30] at H
                                        have c30b0 := eq_true c30
                                        have c30b1 : decide ((ji28) ≤ (a0.size : Int)) = true := decide_eq_true c30
                                        clear c30
                                        obtain rfl := Option.some.inj H
                                        go_wp2
                                        go_ret
                                        exact ⟨by first | rfl | (simp; done) | (simp only [← hji28] <;> (first | rfl | simp)) | (simp [*]; done), by repeat (first | exact Drawn0.refl _ | apply Drawn0.step)⟩
                                      · rw [if_neg c30] at H
                                        exact absurd H (by simp)
                                    · rw [if_neg c29] at H
                                      exact absurd H (by simp)
                                  · rw [if_neg c27] at H
                                    have c27b0 : (t111.toList == a1.toList) = false := beq_eq_false_iff_ne.mpr c27
                                    have c27b1 : (t111.toList != a1.toList) = true := bne_iff_ne.mpr c27
                                    obtain rfl := Option.some.inj H
                                    go_wp2
                                    go_ret
                                    exact ⟨by first | rfl | (simp; done) | (simp [*]; done), by repeat (first | exact Drawn0.refl _ | apply Drawn0.step)⟩
                                · rw [if_neg c26] at H
                                  have c26b0 : (t110.toList == (a0.extract 0 (x11_4 : Int).toNat).toList) = false := beq_eq_false_iff_ne.mpr c26
                                  have c26b1 : (t110.toList != (a0.extract 0 (x11_4 : Int).toNat).toList) = true := bne_iff_ne.mpr c26
                                  obtain rfl := Option.some.inj H
                                  go_wp2
                                  go_ret
                                  exact ⟨by first | rfl | (simp; done) | (simp [*]; done), by repeat (first | exact Drawn0.refl _ | apply Drawn0.step)⟩
                              · rw [if_neg c25] at H
                                exact absurd H (by simp)
                            · rw [if_neg c24] at H
                              exact absurd H (by simp)

/-- THE ONE PURE STATEMENT of laws_FnLastPartition: yours. -/
def laws_FnLastPartition.Pure : Prop := ∀ (a0 : ByteArray) (a1 : ByteArray), a0.size ≤ 140737488351232 → a1.size ≤ 140737488351232 → ∃ k, laws_FnLastPartition.f k a0 a1 = some true
theorem laws_FnLastPartition.walk (P : laws_FnLastPartition.Pure) (a0 : ByteArray) (a1 : ByteArray) (w : World) (w0 : a0.size ≤ 140737488351232) (w1 : a1.size ≤ 140737488351232) :
    Calls Try.prog 3 #[.string a0, .string a1] w fun e w' => e = .returned (.bool true) ∧ Below w.heap.size w w' := by
  obtain ⟨k, h⟩ := P a0 a1 w0 w1
  refine (laws_FnLastPartition.calls k a0 a1 true w h).mono ?_
  rintro e w' ⟨rfl, hd⟩
  exact ⟨rfl, hd.below⟩

end Go.Proofs.Ytphfbhljnlbhhaa.PFnLastPartition
