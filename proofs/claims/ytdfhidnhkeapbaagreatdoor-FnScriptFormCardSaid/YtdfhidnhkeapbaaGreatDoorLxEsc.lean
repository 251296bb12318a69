/- The lexer's scanEscapeSequence. Condition: the number of characters gathered. -/
import Derived.Test.YtdfhidnhkeapbaaGreatDoorLxUniW
namespace Go.Proofs.YtdfhidnhkeapbaaGreatDoor
open Go.RowKit U8
open Go.Lib hiding intOf

set_option maxHeartbeats 3200000 in
theorem scanE_any (w0 : World) (b : Nat) (s rest : List UInt8) (wd : Nat) (acc : List Nat) (its : List LI) (w : World) (h : Lx w0 b s rest wd acc its w) (hT : Tabs w0) (hl : acc.length ≤ 1000000) :
    Calls Tryz.prog 138 #[.pointer (some ⟨b, 0, none⟩)] w (ScanP w0 b s acc its (escS (rns rest))) := by
  have C := Lib.hid (next_any w0 b s rest wd acc its w h hT)
  have HT := Lib.hid hT
  clear h hT
  obtain ⟨RR, hRR⟩ : ∃ RR, rns rest = RR := ⟨_, rfl⟩
  rw [hRR]
  have HRR := Lib.hid hRR
  clear hRR
  go_enter Tryz.func138, Tryz.ntmps138
  go_wp2_with fail
  refine C.out.mono ?_
  rintro e w1 (⟨hr, rfl, h1⟩ | ⟨a, rest2, r, hr, ha, hsc, hrn, rfl, h1⟩)
  · subst hr
    have H1 := Lib.hid h1
    have HF : Hid (escS RR = none) := by show _ = _; rw [← HRR.out, rns_nil]; rfl
    clear h1 HRR
    go_wp2_with fail
    refine (isEscd_eof w1).mono ?_
    rintro e w2 ⟨rfl, hw⟩
    obtain rfl := hw.symm
    go_wp2_with fail
    refine (atUni_eof w1).mono ?_
    rintro e w2 ⟨rfl, hw⟩
    obtain rfl := hw.symm
    go_wp2_with fail
    refine (isEOF_eof w1).mono ?_
    rintro e w2 ⟨rfl, hw⟩
    obtain rfl := hw.symm
    go_wp2_with fail
    refine (errNew_any _ w1).mono ?_
    rintro e wx ⟨rfl, rfl⟩
    go_wp2
    go_ret
    exact scan_err _ H1.out HF.out rfl
  · subst hr
    have H1 := Lib.hid h1
    have HRN : Hid (RR = r :: rns rest2) := by show _ = _; rw [← HRR.out, hrn]
    clear h1 hrn HRR ha
    go_wp2_with fail
    refine (isEscd_nat r w1 hsc).mono ?_
    rintro e w2 ⟨rfl, hb2⟩
    have H2 := Lib.hid (H1.out.below hb2)
    clear hb2 H1
    obtain ⟨q, hq⟩ : ∃ q, escR r = q := ⟨_, rfl⟩
    rw [hq]
    have HQ := Lib.hid hq
    clear hq
    cases q with
    | true =>
      go_wp2_with fail
      refine (decEsc_nat r w2).mono ?_
      rintro e w3 ⟨rfl, hw⟩
      obtain rfl := hw.symm
      go_wp2_with fail
      refine (appendRune_any w0 b s rest2 (decR r) _ acc its w2 H2.out hl).mono ?_
      rintro e w4 ⟨rfl, h4⟩
      have H4 := Lib.hid h4
      clear h4 H2
      go_wp2
      go_ret
      exact .inl ⟨decR r, rns rest2, rest2, _, by rw [HRN.out, escS, if_pos HQ.out], rfl, H4.out, rfl⟩
    | false =>
      go_wp2_with fail
      refine (atUni_nat r w2).mono ?_
      rintro e w3 ⟨rfl, hw⟩
      obtain rfl := hw.symm
      by_cases h117 : r = 117
      · subst h117
        have HF : Hid (escS RR = hex4 (rns rest2)) := by show _ = _; rw [HRN.out, escS, if_neg (by rw [HQ.out]; decide), if_pos rfl]
        have CU := Lib.hid (scanU_any w0 b s rest2 _ acc its w2 H2.out HT.out hl)
        clear H2 HRN
        go_wp2_with fail
        refine CU.out.mono ?_
        rintro e w4 h4
        rcases h4 with ⟨c, t, r3, wd3, h1, rfl, h3, h4⟩ | ⟨h1, N, x, r3, wd3, rfl, h2, h3⟩
        · have H3 := Lib.hid h3
          clear CU h3
          go_wp2
          go_ret
          exact .inl ⟨c, t, r3, wd3, HF.out.trans h1, rfl, H3.out, h4⟩
        · have H3 := Lib.hid h3
          have H22 := Lib.hid h2
          clear CU h3 h2
          go_wp2
          go_ret
          exact .inr ⟨HF.out.trans h1, N, x, r3, wd3, rfl, H22.out, H3.out⟩
      · have e117 : (r == 117) = false := beq_eq_false_iff_ne.2 h117
        rw [e117]
        go_wp2_with fail
        refine (isEOF_nat r w2).mono ?_
        rintro e w3 ⟨rfl, hw⟩
        obtain rfl := hw.symm
        go_wp2_with fail
        refine (appendRune_any w0 b s rest2 r _ acc its w2 H2.out hl).mono ?_
        rintro e w4 ⟨rfl, h4⟩
        have H4 := Lib.hid h4
        clear h4 H2
        go_wp2
        go_ret
        exact .inl ⟨r, rns rest2, rest2, _, by rw [HRN.out, escS, if_neg (by rw [HQ.out]; decide), if_neg h117], rfl, H4.out, rfl⟩
end Go.Proofs.YtdfhidnhkeapbaaGreatDoor
