/- The lexer's state in a key. Conditions: the number of items, the number of characters. -/
import Derived.Test.YtdfhidnhkeapbaaGreatDoorLxS4
import Derived.WalkMore
namespace Go.Proofs.YtdfhidnhkeapbaaGreatDoor
open Go.RowKit U8
open Go.Lib hiding intOf

theorem keyF_esc (n : Nat) (acc t : List Nat) : keyF (n + 1) acc (92 :: t) = (match escS t with | none => none | some (c, t2) => keyF n (acc ++ [c]) t2) := by
  rw [keyF.eq_def]
  simp
  cases escS t <;> rfl
theorem keyF_end (n : Nat) (acc : List Nat) (r : Nat) (t : List Nat) (h : r ≠ 92) (h2 : endR r = true) : keyF (n + 1) acc (r :: t) = some (acc, r :: t) := by
  rw [keyF.eq_def]
  simp [h, h2]
theorem keyF_on (n : Nat) (acc : List Nat) (r : Nat) (t : List Nat) (h : r ≠ 92) (h2 : endR r = false) : keyF (n + 1) acc (r :: t) = keyF n (acc ++ [r]) t := by
  rw [keyF.eq_def]
  simp [h, h2]
set_option maxHeartbeats 6400000 in
theorem state2_any (w0 : World) (b : Nat) (s rest : List UInt8) (wd : Nat) (its : List LI) (w : World) (h : Lx w0 b s rest wd [] its w) (hT : Tabs w0) (hl : its.length ≤ 900000) (hz : (rns rest).length ≤ 1000000) :
    Calls Tryz.prog 123 #[.pointer (some ⟨b, 0, none⟩)] w (StP w0 b s its 2 (rns rest)) := by
  have HL0 := Lib.hid h
  have HT := Lib.hid hT
  have hinv := invErr
  clear h hT
  obtain ⟨RR, hRR⟩ : ∃ RR, rns rest = RR := ⟨_, rfl⟩
  rw [hRR]
  rw [hRR] at hz
  have HRR := Lib.hid hRR
  clear hRR
  go_enter Tryz.func123, Tryz.ntmps123
  go_wp2
  go_step3
  go_wp2
  go_step3
  go_wp2
  go_loopg [3, 4] (RR.length + 1) (fun gk v3 v4 wr => ∃ (n : Nat) (acc : List Nat) (r1 : List UInt8) (wd1 : Nat), Hid (Lx w0 b s r1 wd1 acc its wr) ∧ Hid (keyF (RR.length + 1) [] RR = keyF n acc (rns r1)) ∧ (rns r1).length < n ∧ acc.length + (rns r1).length ≤ 1000000 ∧ (rns r1).length ≤ RR.length ∧ (rns r1).length < gk)
  case atStart => exact ⟨RR.length + 1, [], rest, wd, HL0.out, (by show _ = _; rw [HRR.out]), by rw [HRR.out]; omega, by rw [HRR.out]; simp; omega, by rw [HRR.out]; exact Nat.le_refl _, by rw [HRR.out]; omega⟩
  case round =>
    clear HL0 HRR
    obtain ⟨n, acc, r1, wd1, HL, HC, hn, hsz, hrl, hg⟩ := hrel
    obtain ⟨n, rfl⟩ : ∃ m, n = m + 1 := ⟨n - 1, by omega⟩
    go_wp2_with fail
    refine (next_any w0 b s r1 wd1 acc its wr HL.out HT.out).mono ?_
    rintro e w3 (⟨hr, rfl, h3⟩ | ⟨a, rest2, r, hr, ha, hsc, hrn, rfl, h3⟩)
    · subst hr
      have H3 := Lib.hid h3
      have HF : Hid (keyF (RR.length + 1) [] RR = some (acc, [])) := by show _ = _; rw [HC.out, rns_nil]; rfl
      clear h3 HC HL
      go_wp2_with fail
      refine (isEsc_eof w3).mono ?_
      rintro e w4 ⟨rfl, hw⟩
      obtain rfl := hw.symm
      go_wp2_with fail
      refine (isEnd_eof w3).mono ?_
      rintro e w4 ⟨rfl, hw⟩
      obtain rfl := hw.symm
      go_wp2_with fail
      refine (isEOF_eof w3).mono ?_
      rintro e w4 ⟨rfl, hw⟩
      obtain rfl := hw.symm
      obtain ⟨_, _, _, _, vr, _, _, _, _, _, _, _, _, c6, _, f6, hr6, _⟩ := H3.out.vals
      obtain ⟨ao, cap, rfl⟩ := owns_slice hr6
      clear hr6
      by_cases hacc : acc = []
      · subst hacc
        simp only [List.length_nil] at c6
        go_wp2_with fail
        refine (isEOF_eof w3).mono ?_
        rintro e w4 ⟨rfl, hw⟩
        obtain rfl := hw.symm
        go_wp2_with fail
        refine (emit_any w0 b 1 s [] _ [] its w3 H3.out (by omega)).mono ?_
        rintro e w5 ⟨rfl, p, h5⟩
        have H5 := Lib.hid h5
        clear h5 H3 c6 f6
        go_wp2
        go_ret
        exact ⟨none, [(1, [])], [], _, [], _, rfl, H5.out, by simp, by rw [List.map_append]; rfl, fun n => by rw [lexM, HF.out] <;> rfl, fun q hq => by cases hq⟩
      · have hpos : (0 : Int) < acc.length := by have := List.length_pos_iff.2 hacc; omega
        go_wp2_with fail
        refine (emit_any w0 b 2 s [] _ acc its w3 H3.out (by omega)).mono ?_
        rintro e w4 ⟨rfl, p, h4⟩
        have H4 := Lib.hid h4
        clear h4 H3 c6 f6
        go_wp2_with fail
        refine (isEOF_eof w4).mono ?_
        rintro e w5 ⟨rfl, hw⟩
        obtain rfl := hw.symm
        go_wp2_with fail
        refine (emit_any w0 b 1 s [] _ [] _ w4 H4.out (by simp; omega)).mono ?_
        rintro e w5 ⟨rfl, p2, h5⟩
        have H5 := Lib.hid h5
        clear h5 H4
        go_wp2
        go_ret
        exact ⟨none, [(2, encA acc), (1, [])], [], _, [], _, rfl, H5.out, by simp, by rw [List.map_append, List.map_append, List.append_assoc]; rfl, fun n => by rw [lexM, HF.out]; simp [hacc], fun q hq => by cases hq⟩
    · subst hr
      have H3 := Lib.hid h3
      have HRA : Hid (rns (a ++ rest2) = r :: rns rest2) := hrn
      have HP := Lib.hid HL.out.pre
      have HCN : Hid (keyF (RR.length + 1) [] RR = keyF (n + 1) acc (r :: rns rest2)) := by show _ = _; rw [HC.out, hrn]
      rw [hrn, List.length_cons] at hsz hrl hg hn
      obtain ⟨gk, rfl⟩ : ∃ m, gk = m + 1 := ⟨gk - 1, by omega⟩
      clear h3 hrn ha HC HL
      go_wp2_with fail
      refine (isEsc_nat r w3).mono ?_
      rintro e w4 ⟨rfl, hw⟩
      obtain rfl := hw.symm
      by_cases h92 : r = 92
      · subst h92
        go_wp2_with fail
        refine (scanE_any w0 b s rest2 _ acc its w3 H3.out HT.out (by omega)).mono ?_
        rintro e w5 (⟨c, t, r3, wd3, h1, rfl, h3, ht⟩ | ⟨h1, N, x3, r3, wd3, rfl, h2, h3⟩)
        · have hel := escS_le h1
          have HV : Hid (keyF (RR.length + 1) [] RR = keyF n (acc ++ [c]) t) := by show _ = _; rw [HCN.out, keyF_esc, h1]
          have H5 := Lib.hid h3
          have HT3 := Lib.hid ht
          clear h1 h3 ht HCN H3
          go_wp2
          go_roundg gk
          case rel => exact ⟨n, acc ++ [c], r3, wd3, H5.out, (by show _ = _; rw [HV.out, HT3.out]), by rw [HT3.out]; omega, by rw [HT3.out]; simp; omega, by rw [HT3.out]; omega, by rw [HT3.out]; omega⟩
          case measure => omega
        · have HE : Hid (keyF (RR.length + 1) [] RR = none) := by show _ = _; rw [HCN.out, keyF_esc, h1]
          have H5 := Lib.hid h3
          have H6 := Lib.hid h2
          clear h1 h3 h2 H3
          go_wp2_with fail
          refine (errStr_any N _ w5 H6.out).mono ?_
          rintro e w6 ⟨rfl, hw⟩
          obtain rfl := hw.symm
          go_wp2_with fail
          refine (errorf_any w0 b s r3 x3 wd3 acc its w5 H5.out (by omega)).mono ?_
          rintro e w6 ⟨rfl, p, h7⟩
          have H7 := Lib.hid h7
          clear h7 H5 H6
          go_wp2
          go_ret
          exact ⟨none, [(0, [])], r3, _, acc, _, rfl, H7.out, by simp, by rw [List.map_append]; rfl, fun n => by rw [lexM, HE.out] <;> rfl, fun q hq => by cases hq⟩
      · have e92 : (r == 92) = false := beq_eq_false_iff_ne.2 h92
        rw [e92]
        go_wp2_with fail
        refine (isEnd_nat r w3 hsc).mono ?_
        rintro e w4 ⟨rfl, hb4⟩
        have H4 := Lib.hid (H3.out.below hb4)
        clear hb4 H3
        obtain ⟨q1, hq1⟩ : ∃ q, endR r = q := ⟨_, rfl⟩
        rw [hq1]
        have HQ1 := Lib.hid hq1
        clear hq1
        cases q1 with
        | true =>
          have HF : Hid (keyF (RR.length + 1) [] RR = some (acc, r :: rns rest2)) := by show _ = _; rw [HCN.out, keyF_end _ _ _ _ h92 HQ1.out]
          go_wp2_with fail
          refine (back_any w0 b s a rest2 acc its w4 H4.out HP.out).mono ?_
          rintro e w5 ⟨rfl, h5⟩
          have H5 := Lib.hid h5
          clear h5 H4
          obtain ⟨_, _, _, _, vr, _, _, _, _, _, _, _, _, c6, _, f6, hr6, _⟩ := H5.out.vals
          obtain ⟨ao, cap, rfl⟩ := owns_slice hr6
          clear hr6
          by_cases hacc : acc = []
          · subst hacc
            simp only [List.length_nil] at c6
            go_wp2_with fail
            refine (isEOF_nat r w5).mono ?_
            rintro e w6 ⟨rfl, hw⟩
            obtain rfl := hw.symm
            clear c6 f6
            go_wp2
            go_ret
            exact ⟨some 3, [], a ++ rest2, _, [], its, rfl, H5.out, by simp, by simp, fun n => by rw [lexM, HF.out, HRA.out]; simp, fun q hq => by cases hq; rw [HRA.out]; exact ⟨by unfold mu; simp <;> omega, rfl⟩⟩
          · have hpos : (0 : Int) < acc.length := by have := List.length_pos_iff.2 hacc; omega
            go_wp2_with fail
            refine (emit_any w0 b 2 s _ _ acc its w5 H5.out (by omega)).mono ?_
            rintro e w6 ⟨rfl, p, h6⟩
            have H6 := Lib.hid h6
            clear h6 H5 c6 f6
            go_wp2_with fail
            refine (isEOF_nat r w6).mono ?_
            rintro e w7 ⟨rfl, hw⟩
            obtain rfl := hw.symm
            go_wp2
            go_ret
            exact ⟨some 3, [(2, encA acc)], a ++ rest2, _, [], _, rfl, H6.out, by simp, by rw [List.map_append]; rfl, fun n => by rw [lexM, HF.out, HRA.out]; simp [hacc], fun q hq => by cases hq; rw [HRA.out]; exact ⟨by unfold mu; simp <;> omega, rfl⟩⟩
        | false =>
          have HF : Hid (keyF (RR.length + 1) [] RR = keyF n (acc ++ [r]) (rns rest2)) := by show _ = _; rw [HCN.out, keyF_on _ _ _ _ h92 HQ1.out]
          go_wp2_with fail
          refine (isEOF_nat r w4).mono ?_
          rintro e w5 ⟨rfl, hw⟩
          obtain rfl := hw.symm
          go_wp2_with fail
          refine (appendRune_any w0 b s rest2 r _ acc its w4 H4.out (by omega)).mono ?_
          rintro e w5 ⟨rfl, h5⟩
          have H5 := Lib.hid h5
          clear h5 H4 HCN
          go_wp2
          go_roundg gk
          case rel => exact ⟨n, acc ++ [r], rest2, _, H5.out, HF.out, by omega, by simp; omega, by omega, by omega⟩
          case measure => omega
end Go.Proofs.YtdfhidnhkeapbaaGreatDoor
