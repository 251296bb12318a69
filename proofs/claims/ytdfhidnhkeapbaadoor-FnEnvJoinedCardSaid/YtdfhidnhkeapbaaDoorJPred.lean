/- Function values over bytes below 128: godotenv's and unicode's predicates. Condition: the table unicode.properties for letters and digits. -/
import Derived.Test.YtdfhidnhkeapbaaDoorJBytes
namespace Go.Proofs.YtdfhidnhkeapbaaDoor
open Go.RowKit U8
open Go.Lib hiding intOf

def Pt (w : World) : Prop := Lib.TabIs Tryd.prog w "unicode.properties" .u8 Lib.propertiesTab
theorem Pt.below {w w' : World} (h : Pt w) (hb : Below w.heap.size w w') : Pt w' := by
  have hg : Tryd.prog.globalNamed "unicode.properties" = some 0 := by kernel_rfl
  unfold Pt Lib.TabIs World.var? at h ⊢
  rw [hg] at h ⊢
  simp only [Option.bind_some] at h ⊢
  have hlt : 0 < w.heap.size := by
    rcases Nat.lt_or_ge 0 w.heap.size with h' | h'
    · exact h'
    · rw [Array.getElem?_eq_none h'] at h; cases h
  rw [hb.block 0 hlt]
  exact h
theorem u8_beq (x n : UInt8) : (x == n) = decide (x.toNat = n.toNat) := by
  rw [Bool.eq_iff_iff, beq_iff_eq, decide_eq_true_iff]
  exact UInt8.toNat_inj.symm
theorem isSpB_eq (x : UInt8) : isSpB x = decide (x.toNat = 9 ∨ x.toNat = 11 ∨ x.toNat = 12 ∨ x.toNat = 13 ∨ x.toNat = 32) := by
  unfold isSpB
  rw [u8_beq, u8_beq, u8_beq, u8_beq, u8_beq, Bool.eq_iff_iff]
  simp only [Bool.or_eq_true, decide_eq_true_eq, or_assoc]
  rfl
theorem isWsB_eq (x : UInt8) : isWsB x = decide (9 ≤ x.toNat ∧ x.toNat ≤ 13 ∨ x.toNat = 32) := by
  unfold isWsB
  rw [isSpB_eq, u8_beq, Bool.eq_iff_iff]
  simp only [Bool.or_eq_true, decide_eq_true_eq]
  show _ ∨ x.toNat = 10 ↔ _
  omega
set_option maxHeartbeats 800000 in
theorem sp_any (y : Nat) (w : World) :
    Calls Tryd.prog 46 #[.int .i32 y] w fun e w' => e = .returned (.bool (decide (y = 9 ∨ y = 11 ∨ y = 12 ∨ y = 13 ∨ y = 32 ∨ y = 133 ∨ y = 160))) ∧ w' = w := by
  obtain ⟨q, hq⟩ : ∃ q, decide (y = 9 ∨ y = 11 ∨ y = 12 ∨ y = 13 ∨ y = 32 ∨ y = 133 ∨ y = 160) = q := ⟨_, rfl⟩
  rw [hq]
  have HQ := Lib.hid hq
  clear hq
  by_cases h1 : y = 9
  · obtain rfl : q = true := by rw [← HQ.out]; simp [h1]
    subst h1
    clear HQ
    go_enter Tryd.func46, Tryd.ntmps46
    go_wp2
    go_ret
    exact ⟨rfl, rfl⟩
  by_cases h2 : y = 11
  · obtain rfl : q = true := by rw [← HQ.out]; simp [h2]
    subst h2
    clear HQ
    go_enter Tryd.func46, Tryd.ntmps46
    go_wp2
    go_ret
    exact ⟨rfl, rfl⟩
  by_cases h3 : y = 12
  · obtain rfl : q = true := by rw [← HQ.out]; simp [h3]
    subst h3
    clear HQ
    go_enter Tryd.func46, Tryd.ntmps46
    go_wp2
    go_ret
    exact ⟨rfl, rfl⟩
  by_cases h4 : y = 13
  · obtain rfl : q = true := by rw [← HQ.out]; simp [h4]
    subst h4
    clear HQ
    go_enter Tryd.func46, Tryd.ntmps46
    go_wp2
    go_ret
    exact ⟨rfl, rfl⟩
  by_cases h5 : y = 32
  · obtain rfl : q = true := by rw [← HQ.out]; simp [h5]
    subst h5
    clear HQ
    go_enter Tryd.func46, Tryd.ntmps46
    go_wp2
    go_ret
    exact ⟨rfl, rfl⟩
  by_cases h6 : y = 133
  · obtain rfl : q = true := by rw [← HQ.out]; simp [h6]
    subst h6
    clear HQ
    go_enter Tryd.func46, Tryd.ntmps46
    go_wp2
    go_ret
    exact ⟨rfl, rfl⟩
  by_cases h7 : y = 160
  · obtain rfl : q = true := by rw [← HQ.out]; simp [h7]
    subst h7
    clear HQ
    go_enter Tryd.func46, Tryd.ntmps46
    go_wp2
    go_ret
    exact ⟨rfl, rfl⟩
  · obtain rfl : q = false := by rw [← HQ.out]; simp [h1, h2, h3, h4, h5, h6, h7]
    clear HQ
    go_enter Tryd.func46, Tryd.ntmps46
    go_wp2
    go_ret
    exact ⟨rfl, rfl⟩
theorem sp_b (x : UInt8) (w : World) (hx : x.toNat < 128) : Calls Tryd.prog 46 #[.int .i32 x.toNat] w fun e w' => e = .returned (.bool (isSpB x)) ∧ w' = w := by
  have h := sp_any x.toNat w
  have e : decide (x.toNat = 9 ∨ x.toNat = 11 ∨ x.toNat = 12 ∨ x.toNat = 13 ∨ x.toNat = 32 ∨ x.toNat = 133 ∨ x.toNat = 160) = isSpB x := by
    rw [isSpB_eq, Bool.eq_iff_iff, decide_eq_true_iff, decide_eq_true_iff]
    omega
  rw [e] at h
  exact h
theorem sp_pred (w : World) : PredV 46 #[] isSpB w := fun x hx => sp_b x w hx
theorem ws_tab : ∀ c : Fin 128, Lib.isSpaceL c.val = decide (9 ≤ c.val ∧ c.val ≤ 13 ∨ c.val = 32) := by decide +kernel
theorem ws_b (x : UInt8) (w : World) (hx : x.toNat < 128) : Calls Tryd.prog 53 #[.int .i32 x.toNat] w fun e w' => e = .returned (.bool (isWsB x)) ∧ w' = w := by
  have h := Tryd.unicode_IsSpace x.toNat w (by omega) (by omega)
  have := ws_tab ⟨x.toNat, hx⟩
  simp only at this
  rw [this, ← isWsB_eq] at h
  exact h
theorem ws_pred (w : World) : PredV 53 #[] isWsB w := fun x hx => ws_b x w hx
theorem nws_pred (w : World) : PredV 71 #[] (fun x => !isWsB x) w := by
  intro x hx
  show Calls Tryd.prog 71 #[.int .i32 x.toNat] w fun e w' => e = .returned (.bool (!isWsB x)) ∧ w' = w
  have C := Lib.hid (ws_b x w hx)
  obtain ⟨y, hy⟩ : ∃ y, x.toNat = y := ⟨_, rfl⟩
  obtain ⟨q, hq⟩ : ∃ q, isWsB x = q := ⟨_, rfl⟩
  rw [hy] at C hx ⊢
  rw [hq] at C ⊢
  clear hy hq
  go_enter Tryd.func71, Tryd.ntmps71
  go_wp2_with (go_at_call 53; refine C.out.mono ?_; rintro e wd ⟨rfl, hwd⟩; obtain rfl := hwd.symm)
  go_ret
  exact ⟨rfl, rfl⟩
theorem nl_pred (g : Nat) (w : World) (hc : w.cell? ⟨g, 0, none⟩ = some (.int .i32 10)) : PredV 73 #[.pointer (some ⟨g, 0, none⟩)] (fun x => !notNl x) w := by
  intro x hx
  show Calls Tryd.prog 73 #[.int .i32 x.toNat, .pointer (some ⟨g, 0, none⟩)] w _
  have e : (!notNl x) = decide (x.toNat = 10) := by unfold notNl bne; rw [Bool.not_not, u8_beq]; rfl
  simp only [e]
  obtain ⟨y, hy⟩ : ∃ y, x.toNat = y := ⟨_, rfl⟩
  rw [hy] at hx ⊢
  clear hy e
  by_cases h : y = 10
  · subst h
    go_enter Tryd.func73, Tryd.ntmps73
    go_wp2
    go_ret
    exact ⟨rfl, rfl⟩
  · rw [decide_eq_false h]
    go_enter Tryd.func73, Tryd.ntmps73
    go_wp2
    go_ret
    refine ⟨congrArg Ending.returned ?_, rfl⟩
    show Value.bool _ = Value.bool _
    refine congrArg Value.bool ?_
    first | rfl | (simp; omega)
def lnB (x : UInt8) : Bool := x == 10 || x == 13
set_option maxHeartbeats 800000 in
theorem ln_pred (w : World) : PredV 55 #[] lnB w := by
  intro x hx
  show Calls Tryd.prog 55 #[.int .i32 x.toNat] w _
  have e : lnB x = decide (x.toNat = 10 ∨ x.toNat = 13) := by
    unfold lnB; rw [u8_beq, u8_beq, Bool.eq_iff_iff]
    simp only [Bool.or_eq_true, decide_eq_true_eq]
    rfl
  rw [e]
  obtain ⟨y, hy⟩ : ∃ y, x.toNat = y := ⟨_, rfl⟩
  rw [hy] at hx ⊢
  clear hy e
  by_cases h : y = 10
  · subst h
    go_enter Tryd.func55, Tryd.ntmps55
    go_wp2
    go_ret
    exact ⟨rfl, rfl⟩
  by_cases h2 : y = 13
  · subst h2
    go_enter Tryd.func55, Tryd.ntmps55
    go_wp2
    go_ret
    exact ⟨rfl, rfl⟩
  · rw [decide_eq_false (by omega)]
    have z1 : ((y : Int) == 10) = false := beq_eq_false_iff_ne.2 (by omega)
    have z2 : ((y : Int) == 13) = false := beq_eq_false_iff_ne.2 (by omega)
    go_enter Tryd.func55, Tryd.ntmps55
    go_wp2
    go_ret
    exact ⟨rfl, rfl⟩
def lettB (x : UInt8) : Bool := decide ((65 ≤ x.toNat ∧ x.toNat ≤ 90) ∨ (97 ≤ x.toNat ∧ x.toNat ≤ 122))
def digB (x : UInt8) : Bool := decide (48 ≤ x.toNat ∧ x.toNat ≤ 57)
theorem lt_tab : ∀ c : Fin 128, Lib.isLetterL c.val = decide ((65 ≤ c.val ∧ c.val ≤ 90) ∨ (97 ≤ c.val ∧ c.val ≤ 122)) := by decide +kernel
theorem lett_b (x : UInt8) (w : World) (hx : x.toNat < 128) (hT : Pt w) : Calls Tryd.prog 49 #[.int .i32 x.toNat] w fun e w' => e = .returned (.bool (lettB x)) ∧ w' = w := by
  have h := Tryd.unicode_IsLetter x.toNat w (by omega) hT
  have := lt_tab ⟨x.toNat, hx⟩
  simp only at this
  rw [this] at h
  exact h
theorem dg_tab : ∀ c : Fin 128, bits .and .u8 (Lib.propertiesTab.getD c.val 0) 4 = if 48 ≤ c.val ∧ c.val ≤ 57 then 4 else 0 := by decide +kernel
set_option maxHeartbeats 800000 in
theorem dig_b (x : UInt8) (w : World) (hx : x.toNat < 128) (hT : Pt w) : Calls Tryd.prog 50 #[.int .i32 x.toNat] w fun e w' => e = .returned (.bool (digB x)) ∧ w' = w := by
  unfold digB
  obtain ⟨c, hc⟩ : ∃ y, x.toNat = y := ⟨_, rfl⟩
  rw [hc] at hx ⊢
  have hcell : w.cell? ⟨0, c, none⟩ = some (.int .u8 (Lib.propertiesTab.getD c 0)) := hT.cell (by kernel_rfl) c (by rw [Lib.propertiesTab_length]; omega)
  have hand := dg_tab ⟨c, hx⟩
  simp only at hand
  generalize Lib.propertiesTab.getD c 0 = pv at *
  have hcz : (c : Int) ≤ 255 := by omega
  have hcz2 : (c : Int) < 256 := by omega
  clear hT hc
  by_cases h : 48 ≤ c ∧ c ≤ 57
  · rw [if_pos h] at hand
    rw [decide_eq_true h]
    clear h
    go_enter Tryd.func50, Tryd.ntmps50
    go_wp2
    go_ret
    exact ⟨rfl, rfl⟩
  · rw [if_neg h] at hand
    rw [decide_eq_false h]
    clear h
    go_enter Tryd.func50, Tryd.ntmps50
    go_wp2
    go_ret
    exact ⟨rfl, rfl⟩
theorem nameB_eq (x : UInt8) : nameB x = (x == 95 || (lettB x || digB x || x == 46)) := by
  unfold nameB lettB digB
  rw [Bool.eq_iff_iff]
  simp only [Bool.or_eq_true, decide_eq_true_eq, beq_iff_eq]
  constructor
  · rintro ((h | h) | h)
    · exact .inl h
    · exact .inr (.inr h)
    · refine .inr (.inl ?_)
      omega
  · rintro (h | (h | h) | h)
    · exact .inl (.inl h)
    · exact .inr (by omega)
    · exact .inr (by omega)
    · exact .inl (.inr h)
end Go.Proofs.YtdfhidnhkeapbaaDoor
