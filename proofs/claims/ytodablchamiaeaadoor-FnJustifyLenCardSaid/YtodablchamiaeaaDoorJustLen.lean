/- The law FnJustifyLen: its walk. -/
import Derived.Test.YtodablchamiaeaaDoorJustLaws
namespace Go.Proofs.YtodablchamiaeaaDoor
open Go.RowKit U8
open Go.Lib hiding intOf

theorem center_sp (w : World) (hT : Tabs w) :
    Calls Tryd.prog 32 #[.string ⟨#[104, 101, 108, 108, 111]⟩, .int .i64 10, .string ⟨#[32]⟩] w fun e w' => e = .returned (.string (txt (enc [32, 32, 104, 101, 108, 108, 111, 32, 32, 32]))) ∧ Below w.heap.size w w' :=
  implCenter_any [104, 101, 108, 108, 111] [32] 10 w (by decide) (by decide) (by decide) (by decide) (by decide) hT
theorem len_sp (w : World) : Calls Tryd.prog 27 #[.string (txt (enc [32, 32, 104, 101, 108, 108, 111, 32, 32, 32]))] w fun e w' => e = .returned (.int .i64 10) ∧ Below w.heap.size w w' :=
  implLen_any [32, 32, 104, 101, 108, 108, 111, 32, 32, 32] w (by decide) (by decide)

set_option maxHeartbeats 3200000 in
set_option maxRecDepth 100000 in
theorem law_justifyLen (s : ByteArray) (n : Int) (p : ByteArray) (w : World) (hsz : s.size ≤ 140737488351232) (_hn0 : -9223372036854775808 ≤ n) (_hn1 : n ≤ 9223372036854775807) (hpz : p.size ≤ 140737488351232) (hT : Tabs w) :
    Calls Tryd.prog 13 #[.string s, .int .i64 n, .string p] w fun e w' => e = .returned (.bool true) ∧ Below w.heap.size w w' := by
  by_cases hbig : 2147483647 < s.size
  · go_enter Tryd.func13, Tryd.ntmps13
    go_wp2
    go_ret
    exact ⟨rfl, Below.refl _ _⟩
  have hle : s.size ≤ 2147483647 := by omega
  by_cases hbig2 : 2147483647 < p.size
  · go_enter Tryd.func13, Tryd.ntmps13
    go_wp2
    go_ret
    exact ⟨rfl, Below.refl _ _⟩
  have hle2 : p.size ≤ 2147483647 := by omega
  clear hbig hbig2 hsz hpz
  rcases ok_cases s with hok | ⟨rs, hs, rfl, hlen, hok⟩
  · go_enter Tryd.func13, Tryd.ntmps13
    go_wp2_with fail
    refine (center_sp _ hT).mono ?_
    rintro e w1 ⟨rfl, hb1⟩
    go_wp2_with fail
    refine (len_sp _).mono ?_
    rintro e w2 ⟨rfl, hb2⟩
    have hc2 := chain hb1 hb2
    go_wp2_with fail
    refine (valid_no s _ hle hok (hT.below hc2)).mono ?_
    rintro e w3 ⟨rfl, hb3⟩
    go_wp2
    go_ret
    exact ⟨rfl, chain hc2 hb3⟩
  have hl : rs.length ≤ 4096 := by have := enc_length_ge rs; omega
  have HV := Lib.hid fun W (h : Tabs W) => valid_yes rs W hlen hok h
  clear hok
  rcases ok_cases p with hok | ⟨ps, hp, rfl, hlenp, hok⟩
  · go_enter Tryd.func13, Tryd.ntmps13
    go_wp2_with fail
    refine (center_sp _ hT).mono ?_
    rintro e w1 ⟨rfl, hb1⟩
    go_wp2_with fail
    refine (len_sp _).mono ?_
    rintro e w2 ⟨rfl, hb2⟩
    have hc2 := chain hb1 hb2
    go_wp2_with fail
    refine (HV.out _ (hT.below hc2)).mono ?_
    rintro e w3 ⟨rfl, hb3⟩
    have hc3 := chain hc2 hb3
    go_wp2_with fail
    refine (valid_no p _ hle2 hok (hT.below hc3)).mono ?_
    rintro e w4 ⟨rfl, hb4⟩
    go_wp2
    go_ret
    exact ⟨rfl, chain hc3 hb4⟩
  have hlp : ps.length ≤ 4096 := by have := enc_length_ge ps; omega
  have HW := Lib.hid fun W (h : Tabs W) => valid_yes ps W hlenp hok h
  clear hok
  by_cases hw : 2000 < n
  · go_enter Tryd.func13, Tryd.ntmps13
    go_wp2_with fail
    refine (center_sp _ hT).mono ?_
    rintro e w1 ⟨rfl, hb1⟩
    go_wp2_with fail
    refine (len_sp _).mono ?_
    rintro e w2 ⟨rfl, hb2⟩
    have hc2 := chain hb1 hb2
    go_wp2_with fail
    refine (HV.out _ (hT.below hc2)).mono ?_
    rintro e w3 ⟨rfl, hb3⟩
    have hc3 := chain hc2 hb3
    go_wp2_with fail
    refine (HW.out _ (hT.below hc3)).mono ?_
    rintro e w4 ⟨rfl, hb4⟩
    go_wp2_with go_in
    go_ret
    exact ⟨rfl, chain hc3 hb4⟩
  have hn : n ≤ 2000 := by omega
  clear hw
  obtain ⟨k, hk⟩ : ∃ k, padN rs ps n = k := ⟨_, rfl⟩
  have hk2 : k ≤ 2000 := by rw [← hk]; exact padN_le rs ps n hn
  have hkl := enc_length_le (cyc ps k)
  rw [cyc_length] at hkl
  have hk1 := enc_length_le (cyc ps (k / 2))
  rw [cyc_length] at hk1
  have hk3 := enc_length_le (cyc ps ((k + 1) / 2))
  rw [cyc_length] at hk3
  have hsc : ∀ m, Scs (cyc ps m) ∨ ps = [] := fun m => by
    by_cases h : ps = []
    · exact .inr h
    · exact .inl (cyc_scs ps hp (List.length_pos_iff.2 h) m)
  have hcs : ∀ m, m ≤ k → Scs (cyc ps m) := fun m hm => by
    rcases hsc m with h | h
    · exact h
    · subst h
      have : m = 0 := by rw [padN_empty] at hk; omega
      subst this
      exact Scs.nil
  have cL := Lib.hid fun W (h : Tabs W) => hk ▸ implLeftJustify_any rs ps n W hs hp (by omega) (by omega) hn h
  have cR := Lib.hid fun W (h : Tabs W) => hk ▸ implRightJustify_any rs ps n W hs hp (by omega) (by omega) hn h
  have cC := Lib.hid fun W (h : Tabs W) => hk ▸ implCenter_any rs ps n W hs hp (by omega) (by omega) hn h
  have lL := Lib.hid fun W => implLen_any (rs ++ cyc ps k) W (hs.app (hcs k (Nat.le_refl _))) (by rw [enc_append, List.length_append]; omega)
  have lR := Lib.hid fun W => implLen_any (cyc ps k ++ rs) W ((hcs k (Nat.le_refl _)).app hs) (by rw [enc_append, List.length_append]; omega)
  have lC := Lib.hid fun W => implLen_any (cyc ps (k / 2) ++ (rs ++ cyc ps ((k + 1) / 2))) W ((hcs _ (by omega)).app (hs.app (by
    by_cases h0 : k = 0
    · subst h0; exact Scs.nil
    · exact hcs _ (by omega)))) (by rw [enc_append, enc_append, List.length_append, List.length_append]; omega)
  rw [show (rs ++ cyc ps k).length = rs.length + k by rw [List.length_append, cyc_length]] at lL
  rw [show (cyc ps k ++ rs).length = rs.length + k by rw [List.length_append, cyc_length]; omega] at lR
  rw [show (cyc ps (k / 2) ++ (rs ++ cyc ps ((k + 1) / 2))).length = rs.length + k by rw [List.length_append, List.length_append, cyc_length, cyc_length]; omega] at lC
  clear hsc hcs hkl hk1 hk3
  by_cases he : ps = []
  · subst he
    rw [padN_empty] at hk
    rw [show ((rs.length + k : Nat) : Int) = rs.length by omega] at lL lR lC
    have hemp : txt (enc []) = (⟨#[]⟩ : ByteArray) := rfl
    rw [hemp] at HW cL cR cC hle2 ⊢
    clear hk hemp
    go_enter Tryd.func13, Tryd.ntmps13
    go_wp2_with fail
    refine (center_sp _ hT).mono ?_
    rintro e w1 ⟨rfl, hb1⟩
    go_wp2_with fail
    refine (len_sp _).mono ?_
    rintro e w2 ⟨rfl, hb2⟩
    have hc2 := chain hb1 hb2
    go_wp2_with fail
    refine (HV.out _ (hT.below hc2)).mono ?_
    rintro e w3 ⟨rfl, hb3⟩
    have hc3 := chain hc2 hb3
    go_wp2_with fail
    refine (HW.out _ (hT.below hc3)).mono ?_
    rintro e w4 ⟨rfl, hb4⟩
    have hc4 := chain hc3 hb4
    go_wp2_with (first
      | (go_at_call_of 27 (Value.string (txt (enc rs))); refine (implLen_any rs _ hs (by omega)).mono ?_; rintro e w5 ⟨rfl, hb5⟩)
      | (go_at_call 29; go_in))
    have hc5 := chain hc4 hb5
    refine (cL.out _ (hT.below hc5)).mono ?_
    rintro e w6 ⟨rfl, hb6⟩
    have hc6 := chain hc5 hb6
    go_wp2_with fail
    refine (lL.out _).mono ?_
    rintro e w7 ⟨rfl, hb7⟩
    have hc7 := chain hc6 hb7
    go_wp2_with fail
    refine (cR.out _ (hT.below hc7)).mono ?_
    rintro e w8 ⟨rfl, hb8⟩
    have hc8 := chain hc7 hb8
    go_wp2_with fail
    refine (lR.out _).mono ?_
    rintro e w9 ⟨rfl, hb9⟩
    have hc9 := chain hc8 hb9
    go_wp2_with fail
    refine (cC.out _ (hT.below hc9)).mono ?_
    rintro e w10 ⟨rfl, hb10⟩
    have hc10 := chain hc9 hb10
    go_wp2_with fail
    refine (lC.out _).mono ?_
    rintro e w11 ⟨rfl, hb11⟩
    go_wp2
    go_ret
    exact ⟨rfl, chain hc10 hb11⟩
  · have hne := txt_ne he
    by_cases hgt : (rs.length : Int) < n
    · rw [show ((rs.length + k : Nat) : Int) = n by unfold padN at hk; rw [if_neg he] at hk; omega] at lL lR lC
      clear he hk
      go_enter Tryd.func13, Tryd.ntmps13
      go_wp2_with fail
      refine (center_sp _ hT).mono ?_
      rintro e w1 ⟨rfl, hb1⟩
      go_wp2_with fail
      refine (len_sp _).mono ?_
      rintro e w2 ⟨rfl, hb2⟩
      have hc2 := chain hb1 hb2
      go_wp2_with fail
      refine (HV.out _ (hT.below hc2)).mono ?_
      rintro e w3 ⟨rfl, hb3⟩
      have hc3 := chain hc2 hb3
      go_wp2_with fail
      refine (HW.out _ (hT.below hc3)).mono ?_
      rintro e w4 ⟨rfl, hb4⟩
      have hc4 := chain hc3 hb4
      go_wp2_with (first
        | (go_at_call_of 27 (Value.string (txt (enc rs))); refine (implLen_any rs _ hs (by omega)).mono ?_; rintro e w5 ⟨rfl, hb5⟩)
        | (go_at_call 29; go_in))
      have hc5 := chain hc4 hb5
      refine (cL.out _ (hT.below hc5)).mono ?_
      rintro e w6 ⟨rfl, hb6⟩
      have hc6 := chain hc5 hb6
      go_wp2_with fail
      refine (lL.out _).mono ?_
      rintro e w7 ⟨rfl, hb7⟩
      have hc7 := chain hc6 hb7
      go_wp2_with fail
      refine (cR.out _ (hT.below hc7)).mono ?_
      rintro e w8 ⟨rfl, hb8⟩
      have hc8 := chain hc7 hb8
      go_wp2_with fail
      refine (lR.out _).mono ?_
      rintro e w9 ⟨rfl, hb9⟩
      have hc9 := chain hc8 hb9
      go_wp2_with fail
      refine (cC.out _ (hT.below hc9)).mono ?_
      rintro e w10 ⟨rfl, hb10⟩
      have hc10 := chain hc9 hb10
      go_wp2_with fail
      refine (lC.out _).mono ?_
      rintro e w11 ⟨rfl, hb11⟩
      go_wp2
      go_ret
      exact ⟨rfl, chain hc10 hb11⟩
    · have hk0 : k = 0 := by rw [← hk]; exact padN_short (by omega)
      rw [show ((rs.length + k : Nat) : Int) = rs.length by omega] at lL lR lC
      clear he hk hk0
      go_enter Tryd.func13, Tryd.ntmps13
      go_wp2_with fail
      refine (center_sp _ hT).mono ?_
      rintro e w1 ⟨rfl, hb1⟩
      go_wp2_with fail
      refine (len_sp _).mono ?_
      rintro e w2 ⟨rfl, hb2⟩
      have hc2 := chain hb1 hb2
      go_wp2_with fail
      refine (HV.out _ (hT.below hc2)).mono ?_
      rintro e w3 ⟨rfl, hb3⟩
      have hc3 := chain hc2 hb3
      go_wp2_with fail
      refine (HW.out _ (hT.below hc3)).mono ?_
      rintro e w4 ⟨rfl, hb4⟩
      have hc4 := chain hc3 hb4
      go_wp2_with (first
        | (go_at_call_of 27 (Value.string (txt (enc rs))); refine (implLen_any rs _ hs (by omega)).mono ?_; rintro e w5 ⟨rfl, hb5⟩)
        | (go_at_call 29; go_in))
      have hc5 := chain hc4 hb5
      refine (cL.out _ (hT.below hc5)).mono ?_
      rintro e w6 ⟨rfl, hb6⟩
      have hc6 := chain hc5 hb6
      go_wp2_with fail
      refine (lL.out _).mono ?_
      rintro e w7 ⟨rfl, hb7⟩
      have hc7 := chain hc6 hb7
      go_wp2_with fail
      refine (cR.out _ (hT.below hc7)).mono ?_
      rintro e w8 ⟨rfl, hb8⟩
      have hc8 := chain hc7 hb8
      go_wp2_with fail
      refine (lR.out _).mono ?_
      rintro e w9 ⟨rfl, hb9⟩
      have hc9 := chain hc8 hb9
      go_wp2_with fail
      refine (cC.out _ (hT.below hc9)).mono ?_
      rintro e w10 ⟨rfl, hb10⟩
      have hc10 := chain hc9 hb10
      go_wp2_with fail
      refine (lC.out _).mono ?_
      rintro e w11 ⟨rfl, hb11⟩
      go_wp2
      go_ret
      exact ⟨rfl, chain hc10 hb11⟩

end Go.Proofs.YtodablchamiaeaaDoor
