/- The lexer's state in a value. Conditions: the number of items, the number of characters. -/
import Derived.Test.YtdfhidnhkeapbaaGreatDoorLxS0
import Derived.Handy
namespace Go.Proofs.YtdfhidnhkeapbaaGreatDoor
open Go.RowKit U8
open Go.Lib hiding intOf

theorem valF_eol (n : Nat) (acc : List Nat) (r : Nat) (t : List Nat) (h : r ≠ 92) (h2 : eolR r = true) : valF (n + 1) acc (r :: t) = some (acc, t, false) := by
  rw [valF.eq_def]
  simp [h, h2]
theorem valF_on (n : Nat) (acc : List Nat) (r : Nat) (t : List Nat) (h : r ≠ 92) (h2 : eolR r = false) : valF (n + 1) acc (r :: t) = valF n (acc ++ [r]) t := by
  rw [valF.eq_def]
  simp [h, h2]
theorem invErr : ∀ f v w, (method (f + 1) 161 v "Error").run Tryz.prog w = .ok (194, v) w := by
  intro f v w
  kernel_rfl
set_option maxHeartbeats 6400000 in
theorem state4_any (w0 : World) (b : Nat) (s rest : List UInt8) (wd : Nat) (its : List LI) (w : World) (h : Lx w0 b s rest wd [] its w) (hT : Tabs w0) (hl : its.length ≤ 900000) (hz : (rns rest).length ≤ 1000000) :
    Calls Tryz.prog 151 #[.pointer (some ⟨b, 0, none⟩)] w (StP w0 b s its 4 (rns rest)) := by
  have HL0 := Lib.hid h
  have HT := Lib.hid hT
  have hinv := invErr
  clear h hT
  obtain ⟨RR, hRR⟩ : ∃ RR, rns rest = RR := ⟨_, rfl⟩
  rw [hRR]
  rw [hRR] at hz
  have HRR := Lib.hid hRR
  clear hRR
  go_enter Tryz.func151, Tryz.ntmps151
  go_wp2
  go_loopg [3, 4] (RR.length + 1) (fun gk v3 v4 wr => ∃ (n : Nat) (acc : List Nat) (r1 : List UInt8) (wd1 : Nat), Hid (Lx w0 b s r1 wd1 acc its wr) ∧ Hid (valF (RR.length + 1) [] RR = valF n acc (rns r1)) ∧ (rns r1).length < n ∧ acc.length + (rns r1).length ≤ 1000000 ∧ (rns r1).length ≤ RR.length ∧ (rns r1).length < gk)
  case atStart => exact ⟨RR.length + 1, [], rest, wd, HL0.out, (by show _ = _; rw [HRR.out]), by rw [HRR.out]; omega, by rw [HRR.out]; simp; omega, by rw [HRR.out]; exact Nat.le_refl _, by rw [HRR.out]; omega⟩
  case round =>
    clear HL0 HRR
    obtain ⟨n, acc, r1, wd1, HL, HC, hn, hsz, hrl, hg⟩ := hrel
    obtain ⟨n, rfl⟩ : ∃ m, n = m + 1 := ⟨n - 1, by omega⟩
    go_wp2_with fail
    refine (next_any w0 b s r1 wd1 acc its wr HL.out HT.out).mono ?_
    rintro e w3 (⟨hr, rfl, h3⟩ | ⟨a, rest2, r, hr, ha, hsc, hrn, rfl, h3⟩)
    · subst hr
      have H3 := Lib.hid h3
      have HF : Hid (valF (RR.length + 1) [] RR = some (acc, [], true)) := by show _ = _; rw [HC.out, rns_nil]; rfl
      clear h3 HC HL
      go_wp2_with fail
      refine (isEsc_eof w3).mono ?_
      rintro e w4 ⟨rfl, hw⟩
      obtain rfl := hw.symm
      go_wp2_with fail
      refine (isEOL_eof w3).mono ?_
      rintro e w4 ⟨rfl, hw⟩
      obtain rfl := hw.symm
      go_wp2_with fail
      refine (isEOF_eof w3).mono ?_
      rintro e w4 ⟨rfl, hw⟩
      obtain rfl := hw.symm
      go_wp2_with fail
      refine (emit_any w0 b 3 s [] _ acc its w3 H3.out (by omega)).mono ?_
      rintro e w4 ⟨rfl, p, h4⟩
      have H4 := Lib.hid h4
      clear h4 H3
      go_wp2_with fail
      refine (emit_any w0 b 1 s [] _ [] _ w4 H4.out (by simp; omega)).mono ?_
      rintro e w5 ⟨rfl, p2, h5⟩
      have H5 := Lib.hid h5
      clear h5 H4
      go_wp2
      go_ret
      exact ⟨none, [(3, encA acc), (1, [])], [], _, [], _, rfl, H5.out, by simp, by rw [List.map_append, List.map_append, List.append_assoc]; rfl, fun n => by rw [lexM, HF.out] <;> rfl, fun q hq => by cases hq⟩
    · subst hr
      have H3 := Lib.hid h3
      have HCN : Hid (valF (RR.length + 1) [] RR = valF (n + 1) acc (r :: rns rest2)) := by show _ = _; rw [HC.out, hrn]
      rw [hrn, List.length_cons] at hsz hrl hg hn
      obtain ⟨gk, rfl⟩ : ∃ m, gk = m + 1 := ⟨gk - 1, by omega⟩
      clear h3 hrn ha HC HL
      go_wp2_with fail
      refine (isEsc_nat r w3).mono ?_
      rintro e w4 ⟨rfl, hw⟩
      obtain rfl := hw.symm
      by_cases h92 : r = 92
      · subst h92
        go_wp2_with fail
        refine (peek_any w0 b s rest2 _ acc its w3 H3.out HT.out).mono ?_
        rintro e w4 ⟨wd4, h4, hp⟩
        have H4 := Lib.hid h4
        clear h4 H3
        have HS : Hid (Calls Tryz.prog 138 #[.pointer (some ⟨b, 0, none⟩)] w4 (ScanP w0 b s acc its (escS (rns rest2)))) := scanE_any w0 b s rest2 wd4 acc its w4 H4.out HT.out (by omega)
        rcases hp with ⟨hr2, rfl⟩ | ⟨x, rs, hrx, hscx, rfl⟩
        · have HE : Hid (valF (RR.length + 1) [] RR = none) := by show _ = _; rw [HCN.out, hr2, rns_nil]; rfl
          have HEN : Hid (escS (rns rest2) = none) := by show _ = _; rw [hr2, rns_nil]; rfl
          clear hr2
          go_wp2_with fail
          refine (isEOL_eof w4).mono ?_
          rintro e w5 ⟨rfl, hw⟩
          obtain rfl := hw.symm
          go_wp2_with fail
          refine HS.out.mono ?_
          rintro e w5 (⟨c, t, r3, wd3, h1, _⟩ | ⟨_, N, x, r3, wd3, rfl, h2, h3⟩)
          · rw [HEN.out] at h1; cases h1
          have H5 := Lib.hid h3
          have H6 := Lib.hid h2
          clear h3 h2 HS H4
          go_wp2_with fail
          refine (errStr_any N _ w5 H6.out).mono ?_
          rintro e w6 ⟨rfl, hw⟩
          obtain rfl := hw.symm
          go_wp2_with fail
          refine (errorf_any w0 b s r3 x wd3 acc its w5 H5.out (by omega)).mono ?_
          rintro e w6 ⟨rfl, p, h7⟩
          have H7 := Lib.hid h7
          clear h7 H5 H6
          go_wp2
          go_ret
          exact ⟨none, [(0, [])], r3, _, acc, _, rfl, H7.out, by simp, by rw [List.map_append]; rfl, fun n => by rw [lexM, HE.out] <;> rfl, fun q hq => by cases hq⟩
        · have HRX := Lib.hid hrx
          rw [hrx, List.length_cons] at hsz hrl hg hn
          clear hrx
          go_wp2_with fail
          refine (isEOL_nat x w4).mono ?_
          rintro e w5 ⟨rfl, hw⟩
          obtain rfl := hw.symm
          obtain ⟨q1, hq1⟩ : ∃ q, eolR x = q := ⟨_, rfl⟩
          rw [hq1]
          have HQ1 := Lib.hid hq1
          clear hq1
          cases q1 with
          | true =>
            have HV : Hid (valF (RR.length + 1) [] RR = valF n acc (dropWs rs)) := by show _ = _; rw [HCN.out, HRX.out, valF]; simp only [if_true, HQ1.out]
            have hdl := dropWs_le rs
            clear HS HCN
            go_wp2_with fail
            refine (next_any w0 b s rest2 _ acc its w4 H4.out HT.out).mono ?_
            rintro e w5 (⟨hr, rfl, h5⟩ | ⟨a2, rest3, x2, hr, ha2, hsc2, hrn2, rfl, h5⟩)
            · have := HRX.out
              rw [hr, rns_nil] at this
              cases this
            have H5 := Lib.hid h5
            have HR3 : Hid (rns rest3 = rs) := by show _ = _; rw [HRX.out] at hrn2; exact (List.cons.inj hrn2).2.symm
            clear h5 hrn2 ha2 hr
            go_wp2_with fail
            refine (accrun_any w0 b s rest3 _ acc its w5 H5.out HT.out).mono ?_
            rintro e w6 ⟨rfl, r6, wd6, h6, hr6⟩
            rw [HR3.out] at hr6
            have H6 := Lib.hid h6
            have HR6 := Lib.hid hr6
            clear h6 hr6 H5
            go_wp2
            go_roundg gk
            case rel => exact ⟨n, acc, r6, wd6, H6.out, (by show _ = _; rw [HV.out, HR6.out]), by rw [HR6.out]; omega, by rw [HR6.out]; omega, by rw [HR6.out]; omega, by rw [HR6.out]; omega⟩
            case measure => omega
          | false =>
            go_wp2_with fail
            refine HS.out.mono ?_
            rintro e w5 (⟨c, t, r3, wd3, h1, rfl, h3, ht⟩ | ⟨h1, N, x3, r3, wd3, rfl, h2, h3⟩)
            · rw [HRX.out] at h1
              have hel := escS_le h1
              rw [List.length_cons] at hel
              have HV : Hid (valF (RR.length + 1) [] RR = valF n (acc ++ [c]) t) := by show _ = _; rw [HCN.out, HRX.out, valF]; simp only [if_true, HQ1.out, h1]; rfl
              have H5 := Lib.hid h3
              have HT3 := Lib.hid ht
              clear h1 h3 ht HS HCN H4
              go_wp2
              go_roundg gk
              case rel => exact ⟨n, acc ++ [c], r3, wd3, H5.out, (by show _ = _; rw [HV.out, HT3.out]), by rw [HT3.out]; omega, by rw [HT3.out]; simp; omega, by rw [HT3.out]; omega, by rw [HT3.out]; omega⟩
              case measure => omega
            · have HE : Hid (valF (RR.length + 1) [] RR = none) := by show _ = _; rw [HRX.out] at h1; rw [HCN.out, HRX.out, valF]; simp only [if_true, HQ1.out, h1]; rfl
              have H5 := Lib.hid h3
              have H6 := Lib.hid h2
              clear h1 h3 h2 HS H4
              go_wp2_with fail
              refine (errStr_any N _ w5 H6.out).mono ?_
              rintro e w6 ⟨rfl, hw⟩
              obtain rfl := hw.symm
              go_wp2_with fail
              refine (errorf_any w0 b s r3 x3 wd3 acc its w5 H5.out (by omega)).mono ?_
              rintro e w6 ⟨rfl, p, h7⟩
              have H7 := Lib.hid h7
              clear h7 H5 H6
              go_wp2
              go_ret
              exact ⟨none, [(0, [])], r3, _, acc, _, rfl, H7.out, by simp, by rw [List.map_append]; rfl, fun n => by rw [lexM, HE.out] <;> rfl, fun q hq => by cases hq⟩
      · have e92 : (r == 92) = false := beq_eq_false_iff_ne.2 h92
        rw [e92]
        go_wp2_with fail
        refine (isEOL_nat r w3).mono ?_
        rintro e w4 ⟨rfl, hw⟩
        obtain rfl := hw.symm
        obtain ⟨q1, hq1⟩ : ∃ q, eolR r = q := ⟨_, rfl⟩
        rw [hq1]
        have HQ1 := Lib.hid hq1
        clear hq1
        cases q1 with
        | true =>
          have HF : Hid (valF (RR.length + 1) [] RR = some (acc, rns rest2, false)) := by show _ = _; rw [HCN.out, valF_eol _ _ _ _ h92 HQ1.out]
          go_wp2_with fail
          refine (emit_any w0 b 3 s rest2 _ acc its w3 H3.out (by omega)).mono ?_
          rintro e w5 ⟨rfl, p, h5⟩
          have H5 := Lib.hid h5
          clear h5 H3
          go_wp2_with fail
          refine (ignore_any w0 b s rest2 _ [] _ w5 H5.out).mono ?_
          rintro e w6 ⟨rfl, h6⟩
          have H6 := Lib.hid h6
          clear h6 H5
          go_wp2
          go_ret
          exact ⟨some 0, [(3, encA acc)], rest2, _, [], _, rfl, H6.out, by simp, by rw [List.map_append]; rfl, fun n => by rw [lexM, HF.out] <;> rfl, fun q hq => by cases hq; exact ⟨by unfold mu; simp <;> omega, rfl⟩⟩
        | false =>
          have HF : Hid (valF (RR.length + 1) [] RR = valF n (acc ++ [r]) (rns rest2)) := by show _ = _; rw [HCN.out, valF_on _ _ _ _ h92 HQ1.out]
          go_wp2_with fail
          refine (isEOF_nat r w3).mono ?_
          rintro e w4 ⟨rfl, hw⟩
          obtain rfl := hw.symm
          go_wp2_with fail
          refine (appendRune_any w0 b s rest2 r _ acc its w3 H3.out (by omega)).mono ?_
          rintro e w5 ⟨rfl, h5⟩
          have H5 := Lib.hid h5
          clear h5 H3 HCN
          go_wp2
          go_roundg gk
          case rel => exact ⟨n, acc ++ [r], rest2, _, H5.out, HF.out, by omega, by simp; omega, by omega, by omega⟩
          case measure => omega
end Go.Proofs.YtdfhidnhkeapbaaGreatDoor
