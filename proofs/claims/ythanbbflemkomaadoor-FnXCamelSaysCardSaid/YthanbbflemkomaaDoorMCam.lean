/- The contract of xstrings' ToCamelCase and ToPascalCase, at every text. -/
import Derived.Test.YthanbbflemkomaaDoorMTab
namespace Go.Proofs.YthanbbflemkomaaDoor
open Go.RowKit U8
open Go.Lib hiding intOf

set_option maxHeartbeats 12800000 in
set_option maxRecDepth 100000 in
theorem xcamel_any (l : List UInt8) (big : Bool) (w : World) (hl : l.length ≤ 1000000) (hT : Ut w) :
    Calls Tryd.prog 65 #[.string (txt l), .bool big] w fun e w' => e = .returned (.string (txt (xA big (rns l)))) ∧ Below w.heap.size w w' := by
  obtain ⟨B, hB⟩ : ∃ B, big = B := ⟨_, rfl⟩
  have HBB := Lib.hid hB
  obtain ⟨R, hR⟩ : ∃ R, xA B (rns l) = R := ⟨_, rfl⟩
  rw [hB, hR, ← hB]
  have HR := Lib.hid hR.symm
  have hbr := Below.refl w.heap.size w
  clear hR hB
  by_cases h0 : l = []
  · subst h0
    have hz : (txt ([] : List UInt8)).size = 0 := rfl
    have hF : Hid (R = []) := HR.out
    clear HR
    go_enter Tryd.func65, Tryd.ntmps65
    go_wp2
    go_ret
    exact ⟨by rw [hF.out]; rfl, hbr⟩
  have hll := txt_size l
  have hlp : 0 < l.length := List.length_pos_iff.2 h0
  have hl0 : ((l.length : Int) == 0) = false := beq_eq_false_iff_ne.2 (by omega)
  have H0 := Lib.hid h0
  have HB0 := Lib.hid (bld_fresh w.heap.size w (Nat.le_refl _))
  have HW0 := Lib.hid ((Below.refl w.heap.size w).alloc (Nat.le_refl _) (.cells #[.pointer none, .slice none 0 0] 53))
  have CC := Lib.hid fun (r : Int) (b : Bool) W (hr : I32 r) (hb : conn r = b) (h : Ut W) => conn_is r b W hr hb h
  have CU := Lib.hid fun (r : Int) (b : Bool) W (hr : I32 r) (hb : isUpperU r = b) (h : Ut W) => up_is r b W hr hb h
  have HT := Lib.hid hT
  clear h0 hT hbr
  cases big
  all_goals
    go_enter Tryd.func65, Tryd.ntmps65
    go_wp2
    generalize w.alloc (.cells #[.pointer none, .slice none 0 0] 53) = w0 at *
    go_loopg [0, 7, 9] (l.length + 1) (fun gk s v7 v9 wr => ∃ (o rest : List UInt8) (c n : Int), s = .string (txt rest) ∧ v7 = .int .i32 c ∧ v9 = .int .i64 n ∧ rest.length < gk ∧ o.length + 4 * rest.length ≤ 4 * l.length ∧ Hid (R = o ++ xA B (rns rest)) ∧ Hid (Bld w.heap.size w.heap.size o wr) ∧ Hid (Below w.heap.size w wr) ∧ Hid (rest = [] → I32 c ∧ conn c = true ∧ 1 ≤ n))
    case atStart => exact ⟨[], l, 0, 0, rfl, rfl, rfl, by omega, by simp, HR.out, HB0.out, HW0.out, fun h => absurd h H0.out⟩
    case round =>
      obtain ⟨o, rest, c, n, rfl, rfl, rfl, hg, hlen, HI, HBl, HBw, HE⟩ := hrel
      have hbs := HBw.out.size
      by_cases hne : rest = []
      · subst hne
        obtain ⟨hc1, hc2, hn1⟩ := HE.out rfl
        have hz : (txt ([] : List UInt8)).size = 0 := rfl
        have hn0 : (n == 0) = false := beq_eq_false_iff_ne.2 (by omega)
        have cC := Lib.hid (CC.out c true wr hc1 hc2 (HT.out.below HBw.out))
        have HF : Hid (R = o) := by show _ = _; rw [HI.out]; exact List.append_nil _
        clear HI HE hc1 hc2
        go_wp2_with fail
        refine cC.out.mono ?_
        rintro e w1 ⟨rfl, hb1⟩
        have HB1 := Lib.hid (HBw.out.trans (hb1.mono hbs))
        have HBl1 := Lib.hid (HBl.out.below hb1)
        clear hb1
        go_wp2_with fail
        refine (bld_string w.heap.size w.heap.size _ _ HBl1.out HB1.out.size).mono ?_
        rintro e w2 ⟨rfl, _, hb2, _⟩
        have HB2 := Lib.hid (HB1.out.trans hb2)
        clear hb2
        go_wp2
        go_ret
        exact ⟨ret_str (congrArg txt HF.out.symm), HB2.out⟩
      · obtain ⟨a, rest2, r, rfl, ha, hd, hr, _⟩ := first_part rest hne
        have hal := List.length_pos_iff.2 ha
        have HRI := Lib.hid (show I32 r from hr.i32)
        rw [List.length_append] at hg hlen
        obtain ⟨gk, rfl⟩ : ∃ m, gk = m + 1 := ⟨gk - 1, by omega⟩
        have cD := Lib.hid (dec_list a rest2 r wr ha hd (HT.out.below HBw.out))
        have hsz := size_pos a rest2 ha
        have hple := part_le a rest2
        have hskip := txt_skip a rest2
        have HN := Lib.hid (rns_cons a rest2 r ha hd)
        have her := encR_le r
        clear hd hne hr
        cases hq1 : conn r with
        | true =>
          have HQ1 := Lib.hid hq1
          clear hq1
          go_wp2_with fail
          refine (cD.out).mono ?_
          rintro e w1 ⟨rfl, hb1⟩
          have HB1 := Lib.hid (HBw.out.trans (hb1.mono HBw.out.size))
          have HBl1 := Lib.hid (HBl.out.below hb1)
          clear hb1
          go_wp2_with fail
          refine (CC.out r true _ HRI.out HQ1.out (HT.out.below HB1.out)).mono ?_
          rintro e w2 ⟨rfl, hb2⟩
          have HB2 := Lib.hid (HB1.out.trans (hb2.mono HB1.out.size))
          have HBl2 := Lib.hid (HBl1.out.below hb2)
          clear hb2
          go_wp2_with fail
          refine (bld_any w.heap.size w.heap.size o r _ HBl2.out HRI.out (by omega) HB2.out.size).mono ?_
          rintro e w3 ⟨⟨m3, rfl⟩, hbl3, hb3⟩
          have HB3 := Lib.hid (HB2.out.trans hb3)
          have HBl3 := Lib.hid hbl3
          clear hb3 hbl3
          go_wp2
          go_roundg gk
          case rel => exact ⟨o ++ encodeRune r, rest2, r, a.length, rfl, rfl, rfl, by omega, by rw [List.length_append]; omega, by show _ = _; rw [HI.out, HN.out, xA_conn HQ1.out, List.append_assoc], HBl3.out, HB3.out, fun _ => ⟨HRI.out, HQ1.out, by omega⟩⟩
          case measure => omega
        | false =>
          have HQ1 := Lib.hid hq1
          clear hq1
          obtain ⟨u, hu⟩ : ∃ u, isUpperU r = u := ⟨_, rfl⟩
          have HU := Lib.hid hu
          clear hu
          go_wp2_with fail
          refine (cD.out).mono ?_
          rintro e w1 ⟨rfl, hb1⟩
          have HB1 := Lib.hid (HBw.out.trans (hb1.mono HBw.out.size))
          have HBl1 := Lib.hid (HBl.out.below hb1)
          clear hb1
          go_wp2_with fail
          refine (CC.out r false _ HRI.out HQ1.out (HT.out.below HB1.out)).mono ?_
          rintro e w2 ⟨rfl, hb2⟩
          have HB2 := Lib.hid (HB1.out.trans (hb2.mono HB1.out.size))
          have HBl2 := Lib.hid (HBl1.out.below hb2)
          clear hb2
          go_wp2_with fail
          refine (CU.out r u _ HRI.out HU.out (HT.out.below HB2.out)).mono ?_
          rintro e w3 ⟨rfl, hb3⟩
          have HB3 := Lib.hid (HB2.out.trans (hb3.mono HB2.out.size))
          have HBl3 := Lib.hid (HBl2.out.below hb3)
          clear hb3
          have HX0 : Hid (R = o ++ xB u (cvt B r) (rns rest2)) := by show _ = _; rw [HI.out, HN.out, xA_not HQ1.out, HU.out]
          have HC00 : Hid (I32 (cvt B r)) := cvt_i32 HRI.out
          go_wp2_with fail
          first
            | (go_at_call 75; refine (locvt B HBB.out r _ (HT.out.below HB3.out)).mono ?_)
            | (go_at_call 67; refine (tocvt B HBB.out r _ (HT.out.below HB3.out)).mono ?_)
          rintro e w4 ⟨rfl, hb4⟩
          have HB4 := Lib.hid (HB3.out.trans (hb4.mono HB3.out.size))
          have HBl4 := Lib.hid (HBl3.out.below hb4)
          clear hb4
          generalize cvt B r = c0 at *
          have HC0 := Lib.hid HC00.out
          by_cases h2 : rest2 = []
          · subst h2
            have hz : (txt ([] : List UInt8)).size = 0 := rfl
            have hn0 : ((a.length : Int) == 0) = false := beq_eq_false_iff_ne.2 (by omega)
            have hn1 : ((a.length : Int) != 0) = true := by simp; omega
            cases hq : conn c0 with
            | true =>
              have HQ := Lib.hid hq
              have HF : Hid (R = o) := by show _ = _; rw [HX0.out, rns_nil, xB, if_pos hq, List.append_nil]
              clear hq
              go_wp2_with fail
              refine (CC.out c0 true _ HC0.out HQ.out (HT.out.below HB4.out)).mono ?_
              rintro e w5 ⟨rfl, hb5⟩
              have HB5 := Lib.hid (HB4.out.trans (hb5.mono HB4.out.size))
              have HBl5 := Lib.hid (HBl4.out.below hb5)
              clear hb5
              go_wp2_with fail
              refine (bld_string w.heap.size w.heap.size _ _ HBl5.out HB5.out.size).mono ?_
              rintro e w6 ⟨rfl, _, hb6, _⟩
              have HB6 := Lib.hid (HB5.out.trans hb6)
              clear hb6
              go_wp2
              go_ret
              exact ⟨ret_str (congrArg txt HF.out.symm), HB6.out⟩
            | false =>
              have HQ := Lib.hid hq
              have HF : Hid (R = o ++ encodeRune c0) := by show _ = _; rw [HX0.out, rns_nil, xB, if_neg (by simp [hq])]
              clear hq
              go_wp2_with fail
              refine (CC.out c0 false _ HC0.out HQ.out (HT.out.below HB4.out)).mono ?_
              rintro e w5 ⟨rfl, hb5⟩
              have HB5 := Lib.hid (HB4.out.trans (hb5.mono HB4.out.size))
              have HBl5 := Lib.hid (HBl4.out.below hb5)
              clear hb5
              go_wp2_with fail
              refine (bld_any w.heap.size w.heap.size o c0 _ HBl5.out HC0.out (by omega) HB5.out.size).mono ?_
              rintro e w6 ⟨⟨m6, rfl⟩, hbl6, hb6⟩
              have HB6 := Lib.hid (HB5.out.trans hb6)
              have HBl6 := Lib.hid hbl6
              clear hb6 hbl6
              go_wp2_with fail
              refine (bld_string w.heap.size w.heap.size _ _ HBl6.out HB6.out.size).mono ?_
              rintro e w7 ⟨rfl, _, hb7, _⟩
              have HB7 := Lib.hid (HB6.out.trans hb7)
              clear hb7
              go_wp2
              go_ret
              exact ⟨ret_str (congrArg txt HF.out.symm), HB7.out⟩
          · have HX : Hid (R = o ++ xC u c0 (rns rest2)) := by
              show _ = _
              rw [HX0.out]
              obtain ⟨a3, rest3, r3, e3, ha3, hd3, _, _⟩ := first_part rest2 h2
              rw [e3, rns_cons a3 rest3 r3 ha3 hd3]; rfl
            have h2l := List.length_pos_iff.2 h2
            have ht2 := txt_size rest2
            have hpos2 : 0 < (txt rest2).size := by omega
            have hne2 : ((rest2.length : Int) == 0) = false := beq_eq_false_iff_ne.2 (by omega)
            clear h2 HX0 HC00
            go_wp2
            rename World => v9
            go_loopg [0, 6, 7] (rest2.length + 1) (fun gk s v6 v7 wr => ∃ (o rest : List UInt8) (u : Bool) (c : Int), s = .string (txt rest) ∧ v6 = .bool u ∧ v7 = .int .i32 c ∧ Hid (I32 c) ∧ rest.length < gk ∧ o.length + 4 * rest.length + 4 ≤ 4 * l.length ∧ Hid (R = o ++ xC u c (rns rest)) ∧ Hid (Bld w.heap.size w.heap.size o wr) ∧ Hid (Below w.heap.size w wr))
            case atStart => exact ⟨o, rest2, u, _, rfl, rfl, rfl, HC0.out, by omega, by omega, HX.out, HBl4.out, HB4.out⟩
            case round =>
              clear HI HX HBl HBw HN hg hlen hsz hple hskip hal HRI HB1 HB2 HB3 HB4 HBl1 HBl2 HBl3 HBl4 her
              obtain ⟨o, rest, u, c, rfl, rfl, rfl, HC, hg, hlen, HI, HBl, HBw⟩ := hrel
              have hbs := HBw.out.size
              by_cases hne : rest = []
              · subst hne
                have hz : (txt ([] : List UInt8)).size = 0 := rfl
                have hec := encR_le c
                have HF : Hid (R = o ++ encodeRune c) := HI.out
                clear HI
                go_wp2_with fail
                refine (bld_any w.heap.size w.heap.size o c _ HBl.out HC.out (by omega) HBw.out.size).mono ?_
                rintro e w1 ⟨⟨m1, rfl⟩, hbl1, hb1⟩
                have HB1 := Lib.hid (HBw.out.trans hb1)
                have HBl1 := Lib.hid hbl1
                clear hb1 hbl1
                go_wp2_with fail
                refine (bld_string w.heap.size w.heap.size _ _ HBl1.out HB1.out.size).mono ?_
                rintro e w2 ⟨rfl, _, hb2, _⟩
                have HB2 := Lib.hid (HB1.out.trans hb2)
                clear hb2
                go_wp2
                go_ret
                exact ⟨ret_str (congrArg txt HF.out.symm), HB2.out⟩
              · obtain ⟨a, rest2, r, rfl, ha, hd, hr, _⟩ := first_part rest hne
                have hal := List.length_pos_iff.2 ha
                have HRI := Lib.hid (show I32 r from hr.i32)
                rw [List.length_append] at hg hlen
                obtain ⟨gk, rfl⟩ : ∃ m, gk = m + 1 := ⟨gk - 1, by omega⟩
                have cD := Lib.hid (dec_list a rest2 r wr ha hd (HT.out.below HBw.out))
                have hsz := size_pos a rest2 ha
                have hple := part_le a rest2
                have hskip := txt_skip a rest2
                have HN := Lib.hid (rns_cons a rest2 r ha hd)
                have her := encR_le r
                clear hd hne hr
                have hec := encR_le c
                have hol : o.length ≤ 4 * l.length := by omega
                cases hq1 : conn r with
                | true =>
                  have HQ1 := Lib.hid hq1
                  clear hq1
                  cases hq2 : conn c with
                  | true =>
                    have HQ2 := Lib.hid hq2
                    clear hq2
                    go_wp2_with fail
                    refine (cD.out).mono ?_
                    rintro e w1 ⟨rfl, hb1⟩
                    have HB1 := Lib.hid (HBw.out.trans (hb1.mono HBw.out.size))
                    have HBl1 := Lib.hid (HBl.out.below hb1)
                    clear hb1
                    go_wp2_with fail
                    refine (CC.out r true _ HRI.out HQ1.out (HT.out.below HB1.out)).mono ?_
                    rintro e w2 ⟨rfl, hb2⟩
                    have HB2 := Lib.hid (HB1.out.trans (hb2.mono HB1.out.size))
                    have HBl2 := Lib.hid (HBl1.out.below hb2)
                    clear hb2
                    go_wp2_with fail
                    refine (CC.out c true _ HC.out HQ2.out (HT.out.below HB2.out)).mono ?_
                    rintro e w3 ⟨rfl, hb3⟩
                    have HB3 := Lib.hid (HB2.out.trans (hb3.mono HB2.out.size))
                    have HBl3 := Lib.hid (HBl2.out.below hb3)
                    clear hb3
                    go_wp2_with fail
                    refine (bld_any w.heap.size w.heap.size o c _ HBl3.out HC.out (by omega) HB3.out.size).mono ?_
                    rintro e w4 ⟨⟨m4, rfl⟩, hbl4, hb4⟩
                    have HB4 := Lib.hid (HB3.out.trans hb4)
                    have HBl4 := Lib.hid hbl4
                    clear hb4 hbl4
                    go_wp2
                    go_roundg gk
                    case rel => exact ⟨o ++ encodeRune c, rest2, u, r, rfl, rfl, rfl, HRI.out, by omega, by rw [List.length_append]; omega, by show _ = _; rw [HI.out, HN.out, xC_cc HQ1.out HQ2.out, List.append_assoc], HBl4.out, HB4.out⟩
                    case measure => omega
                  | false =>
                    have HQ2 := Lib.hid hq2
                    clear hq2
                    go_wp2_with fail
                    refine (cD.out).mono ?_
                    rintro e w1 ⟨rfl, hb1⟩
                    have HB1 := Lib.hid (HBw.out.trans (hb1.mono HBw.out.size))
                    have HBl1 := Lib.hid (HBl.out.below hb1)
                    clear hb1
                    go_wp2_with fail
                    refine (CC.out r true _ HRI.out HQ1.out (HT.out.below HB1.out)).mono ?_
                    rintro e w2 ⟨rfl, hb2⟩
                    have HB2 := Lib.hid (HB1.out.trans (hb2.mono HB1.out.size))
                    have HBl2 := Lib.hid (HBl1.out.below hb2)
                    clear hb2
                    go_wp2_with fail
                    refine (CC.out c false _ HC.out HQ2.out (HT.out.below HB2.out)).mono ?_
                    rintro e w3 ⟨rfl, hb3⟩
                    have HB3 := Lib.hid (HB2.out.trans (hb3.mono HB2.out.size))
                    have HBl3 := Lib.hid (HBl2.out.below hb3)
                    clear hb3
                    go_wp2_with fail
                    refine (CC.out c false _ HC.out HQ2.out (HT.out.below HB3.out)).mono ?_
                    rintro e w4 ⟨rfl, hb4⟩
                    have HB4 := Lib.hid (HB3.out.trans (hb4.mono HB3.out.size))
                    have HBl4 := Lib.hid (HBl3.out.below hb4)
                    clear hb4
                    cases u with
                    | true =>
                      cases hu : isUpperU r with
                      | true =>
                        have HU := Lib.hid hu
                        clear hu
                        go_wp2_with fail
                        refine (CU.out r true _ HRI.out HU.out (HT.out.below HB4.out)).mono ?_
                        rintro e w5 ⟨rfl, hb5⟩
                        have HB5 := Lib.hid (HB4.out.trans (hb5.mono HB4.out.size))
                        have HBl5 := Lib.hid (HBl4.out.below hb5)
                        clear hb5
                        go_wp2_with fail
                        refine (tolo_is r _ (HT.out.below HB5.out)).mono ?_
                        rintro e w6 ⟨rfl, hb6⟩
                        have HB6 := Lib.hid (HB5.out.trans (hb6.mono HB5.out.size))
                        have HBl6 := Lib.hid (HBl5.out.below hb6)
                        clear hb6
                        go_wp2_with fail
                        refine (bld_any w.heap.size w.heap.size o c _ HBl6.out HC.out (by omega) HB6.out.size).mono ?_
                        rintro e w7 ⟨⟨m7, rfl⟩, hbl7, hb7⟩
                        have HB7 := Lib.hid (HB6.out.trans hb7)
                        have HBl7 := Lib.hid hbl7
                        clear hb7 hbl7
                        go_wp2
                        go_roundg gk
                        case rel => exact ⟨o ++ encodeRune c, rest2, true, toLowerU r, rfl, rfl, rfl, tl_i32 HRI.out, by omega, by rw [List.length_append]; omega, by show _ = _; rw [HI.out, HN.out, xC_up HQ2.out HU.out, List.append_assoc], HBl7.out, HB7.out⟩
                        case measure => omega
                      | false =>
                        have HU := Lib.hid hu
                        clear hu
                        go_wp2_with fail
                        refine (CU.out r false _ HRI.out HU.out (HT.out.below HB4.out)).mono ?_
                        rintro e w5 ⟨rfl, hb5⟩
                        have HB5 := Lib.hid (HB4.out.trans (hb5.mono HB4.out.size))
                        have HBl5 := Lib.hid (HBl4.out.below hb5)
                        clear hb5
                        go_wp2_with fail
                        refine (bld_any w.heap.size w.heap.size o c _ HBl5.out HC.out (by omega) HB5.out.size).mono ?_
                        rintro e w6 ⟨⟨m6, rfl⟩, hbl6, hb6⟩
                        have HB6 := Lib.hid (HB5.out.trans hb6)
                        have HBl6 := Lib.hid hbl6
                        clear hb6 hbl6
                        go_wp2
                        go_roundg gk
                        case rel => exact ⟨o ++ encodeRune c, rest2, false, r, rfl, rfl, rfl, HRI.out, by omega, by rw [List.length_append]; omega, by show _ = _; rw [HI.out, HN.out, xC_nu HQ2.out HU.out, List.append_assoc], HBl6.out, HB6.out⟩
                        case measure => omega
                    | false =>
                      go_wp2_with fail
                      refine (bld_any w.heap.size w.heap.size o c _ HBl4.out HC.out (by omega) HB4.out.size).mono ?_
                      rintro e w5 ⟨⟨m5, rfl⟩, hbl5, hb5⟩
                      have HB5 := Lib.hid (HB4.out.trans hb5)
                      have HBl5 := Lib.hid hbl5
                      clear hb5 hbl5
                      go_wp2
                      go_roundg gk
                      case rel => exact ⟨o ++ encodeRune c, rest2, false, r, rfl, rfl, rfl, HRI.out, by omega, by rw [List.length_append]; omega, by show _ = _; rw [HI.out, HN.out, xC_no HQ2.out, List.append_assoc], HBl5.out, HB5.out⟩
                      case measure => omega
                | false =>
                  have HQ1 := Lib.hid hq1
                  clear hq1
                  cases hq2 : conn c with
                  | true =>
                    have HQ2 := Lib.hid hq2
                    clear hq2
                    obtain ⟨u2, hu⟩ : ∃ u2, isUpperU r = u2 := ⟨_, rfl⟩
                    have HU := Lib.hid hu
                    clear hu
                    go_wp2_with fail
                    refine (cD.out).mono ?_
                    rintro e w1 ⟨rfl, hb1⟩
                    have HB1 := Lib.hid (HBw.out.trans (hb1.mono HBw.out.size))
                    have HBl1 := Lib.hid (HBl.out.below hb1)
                    clear hb1
                    go_wp2_with fail
                    refine (CC.out r false _ HRI.out HQ1.out (HT.out.below HB1.out)).mono ?_
                    rintro e w2 ⟨rfl, hb2⟩
                    have HB2 := Lib.hid (HB1.out.trans (hb2.mono HB1.out.size))
                    have HBl2 := Lib.hid (HBl1.out.below hb2)
                    clear hb2
                    go_wp2_with fail
                    refine (CC.out c true _ HC.out HQ2.out (HT.out.below HB2.out)).mono ?_
                    rintro e w3 ⟨rfl, hb3⟩
                    have HB3 := Lib.hid (HB2.out.trans (hb3.mono HB2.out.size))
                    have HBl3 := Lib.hid (HBl2.out.below hb3)
                    clear hb3
                    go_wp2_with fail
                    refine (CU.out r u2 _ HRI.out HU.out (HT.out.below HB3.out)).mono ?_
                    rintro e w4 ⟨rfl, hb4⟩
                    have HB4 := Lib.hid (HB3.out.trans (hb4.mono HB3.out.size))
                    have HBl4 := Lib.hid (HBl3.out.below hb4)
                    clear hb4
                    go_wp2_with fail
                    refine (toup_is r _ (HT.out.below HB4.out)).mono ?_
                    rintro e w5 ⟨rfl, hb5⟩
                    have HB5 := Lib.hid (HB4.out.trans (hb5.mono HB4.out.size))
                    have HBl5 := Lib.hid (HBl4.out.below hb5)
                    clear hb5
                    go_wp2
                    go_roundg gk
                    case rel => exact ⟨o, rest2, u2, toUpperU r, rfl, rfl, rfl, tu_i32 HRI.out, by omega, by omega, by show _ = _; rw [HI.out, HN.out, xC_nc HQ1.out HQ2.out, HU.out], HBl5.out, HB5.out⟩
                    case measure => omega
                  | false =>
                    have HQ2 := Lib.hid hq2
                    clear hq2
                    go_wp2_with fail
                    refine (cD.out).mono ?_
                    rintro e w1 ⟨rfl, hb1⟩
                    have HB1 := Lib.hid (HBw.out.trans (hb1.mono HBw.out.size))
                    have HBl1 := Lib.hid (HBl.out.below hb1)
                    clear hb1
                    go_wp2_with fail
                    refine (CC.out r false _ HRI.out HQ1.out (HT.out.below HB1.out)).mono ?_
                    rintro e w2 ⟨rfl, hb2⟩
                    have HB2 := Lib.hid (HB1.out.trans (hb2.mono HB1.out.size))
                    have HBl2 := Lib.hid (HBl1.out.below hb2)
                    clear hb2
                    go_wp2_with fail
                    refine (CC.out c false _ HC.out HQ2.out (HT.out.below HB2.out)).mono ?_
                    rintro e w3 ⟨rfl, hb3⟩
                    have HB3 := Lib.hid (HB2.out.trans (hb3.mono HB2.out.size))
                    have HBl3 := Lib.hid (HBl2.out.below hb3)
                    clear hb3
                    cases u with
                    | true =>
                      cases hu : isUpperU r with
                      | true =>
                        have HU := Lib.hid hu
                        clear hu
                        go_wp2_with fail
                        refine (CU.out r true _ HRI.out HU.out (HT.out.below HB3.out)).mono ?_
                        rintro e w4 ⟨rfl, hb4⟩
                        have HB4 := Lib.hid (HB3.out.trans (hb4.mono HB3.out.size))
                        have HBl4 := Lib.hid (HBl3.out.below hb4)
                        clear hb4
                        go_wp2_with fail
                        refine (tolo_is r _ (HT.out.below HB4.out)).mono ?_
                        rintro e w5 ⟨rfl, hb5⟩
                        have HB5 := Lib.hid (HB4.out.trans (hb5.mono HB4.out.size))
                        have HBl5 := Lib.hid (HBl4.out.below hb5)
                        clear hb5
                        go_wp2_with fail
                        refine (bld_any w.heap.size w.heap.size o c _ HBl5.out HC.out (by omega) HB5.out.size).mono ?_
                        rintro e w6 ⟨⟨m6, rfl⟩, hbl6, hb6⟩
                        have HB6 := Lib.hid (HB5.out.trans hb6)
                        have HBl6 := Lib.hid hbl6
                        clear hb6 hbl6
                        go_wp2
                        go_roundg gk
                        case rel => exact ⟨o ++ encodeRune c, rest2, true, toLowerU r, rfl, rfl, rfl, tl_i32 HRI.out, by omega, by rw [List.length_append]; omega, by show _ = _; rw [HI.out, HN.out, xC_up HQ2.out HU.out, List.append_assoc], HBl6.out, HB6.out⟩
                        case measure => omega
                      | false =>
                        have HU := Lib.hid hu
                        clear hu
                        go_wp2_with fail
                        refine (CU.out r false _ HRI.out HU.out (HT.out.below HB3.out)).mono ?_
                        rintro e w4 ⟨rfl, hb4⟩
                        have HB4 := Lib.hid (HB3.out.trans (hb4.mono HB3.out.size))
                        have HBl4 := Lib.hid (HBl3.out.below hb4)
                        clear hb4
                        go_wp2_with fail
                        refine (bld_any w.heap.size w.heap.size o c _ HBl4.out HC.out (by omega) HB4.out.size).mono ?_
                        rintro e w5 ⟨⟨m5, rfl⟩, hbl5, hb5⟩
                        have HB5 := Lib.hid (HB4.out.trans hb5)
                        have HBl5 := Lib.hid hbl5
                        clear hb5 hbl5
                        go_wp2
                        go_roundg gk
                        case rel => exact ⟨o ++ encodeRune c, rest2, false, r, rfl, rfl, rfl, HRI.out, by omega, by rw [List.length_append]; omega, by show _ = _; rw [HI.out, HN.out, xC_nu HQ2.out HU.out, List.append_assoc], HBl5.out, HB5.out⟩
                        case measure => omega
                    | false =>
                      go_wp2_with fail
                      refine (bld_any w.heap.size w.heap.size o c _ HBl3.out HC.out (by omega) HB3.out.size).mono ?_
                      rintro e w4 ⟨⟨m4, rfl⟩, hbl4, hb4⟩
                      have HB4 := Lib.hid (HB3.out.trans hb4)
                      have HBl4 := Lib.hid hbl4
                      clear hb4 hbl4
                      go_wp2
                      go_roundg gk
                      case rel => exact ⟨o ++ encodeRune c, rest2, false, r, rfl, rfl, rfl, HRI.out, by omega, by rw [List.length_append]; omega, by show _ = _; rw [HI.out, HN.out, xC_no HQ2.out, List.append_assoc], HBl4.out, HB4.out⟩
                      case measure => omega

end Go.Proofs.YthanbbflemkomaaDoor
