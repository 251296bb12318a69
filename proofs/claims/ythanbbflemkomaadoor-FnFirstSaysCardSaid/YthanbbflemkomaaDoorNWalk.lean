/- FirstRuneToUpper, FirstRuneToLower, SwapCase of xstrings at any text; laws.lettered, spec.settled, spec.cased. -/
import Derived.Test.YthanbbflemkomaaDoorNTab
namespace Go.Proofs.YthanbbflemkomaaDoor
open Go.RowKit U8
open Go.Lib hiding intOf

theorem bld_rest (B b : Nat) (l x : List UInt8) (w : World) (h : Bld B b l w) (hl : l.length + x.length ≤ 140737488355328) (hB : B ≤ w.heap.size) :
    Calls Tryd.prog 69 #[.pointer (some ⟨b, 0, none⟩), .string (txt x)] w fun e w' => (∃ n : Int, e = .returned (.tuple #[.int .i64 n, .nilIface])) ∧ Bld B b (l ++ x) w' ∧ Below B w w' := by
  refine (Tryd.Builder_WriteString_k B b (byteCells l) (txt x) w h (by rw [byteCells_length, txt_size]; exact hl) hB).mono ?_
  rintro e w' ⟨rfl, h1, h2, h3⟩
  refine ⟨⟨_, rfl⟩, ?_, h2⟩
  unfold Bld
  rw [byteCells_app, ← strCells_txt x]
  exact .inr h1
theorem ib_i32 {r : Nat} (h : Sc r) : I32 (r : Int) := h.i32

set_option maxHeartbeats 1600000 in
set_option maxRecDepth 100000 in
theorem firstUp_any (l : List UInt8) (w : World) (hl : l.length ≤ 1000000) (hT : Ft w) :
    Calls Tryd.prog 50 #[.string (txt l)] w fun e w' => e = .returned (.string (txt (fU toUpperU l))) ∧ Below w.heap.size w w' := by
  by_cases hne : l = []
  · subst hne
    have he : ((txt ([] : List UInt8)).toList == ([] : List UInt8)) = true := by rw [txt_toList]; rfl
    go_enter Tryd.func50, Tryd.ntmps50
    go_wp2
    go_ret
    exact ⟨rfl, Below.refl _ _⟩
  have he : ((txt l).toList == ([] : List UInt8)) = false := by rw [txt_toList]; exact beq_eq_false_iff_ne.2 hne
  obtain ⟨a, rest, r, rfl, ha, hd, hr, _⟩ := first_part l hne
  obtain ⟨z, hz⟩ : ∃ z, toUpperU (r : Int) = z := ⟨_, rfl⟩
  have HRES := Lib.hid (fU_cons toUpperU a rest r ha hd)
  have hal := List.length_pos_iff.2 ha
  have HRI := Lib.hid (ib_i32 hr)
  have cD := Lib.hid (dec_f a rest r w ha hd hT)
  have hsz := size_pos a rest ha
  have hple := part_le a rest
  have hskip := txt_skip a rest
  have cZ := Lib.hid fun W (h : Ft W) => tu_f r z W hz h
  have HZI : Hid (I32 z) := by show I32 _; rw [← hz]; exact tu_i32 HRI.out
  have HT := Lib.hid hT
  have her := encR_le z
  rw [List.length_append] at hl
  have hsl : (txt (a ++ rest)).size ≤ 1000000 := by rw [txt_size, List.length_append]; exact hl
  have HZ := Lib.hid hz
  clear hd hne hr hT hz
  by_cases hq : z = r
  · have hqq : (z == (r : Int)) = true := by rw [hq]; simp
    have HF : Hid (fU toUpperU (a ++ rest) = a ++ rest) := by show _ = _; rw [HRES.out, HZ.out, if_pos hq]
    clear hq HRES
    go_enter Tryd.func50, Tryd.ntmps50
    go_wp2_with fail
    refine cD.out.mono ?_
    rintro e w1 ⟨rfl, hb1⟩
    have HB1 := Lib.hid hb1
    clear hb1
    go_wp2_with fail
    refine (cZ.out _ (HT.out.below HB1.out)).mono ?_
    rintro e w2 ⟨rfl, hb2⟩
    have HB2 := Lib.hid (chain HB1.out hb2)
    clear hb2
    go_wp2
    go_ret
    exact ⟨ret_str (congrArg txt HF.out.symm), HB2.out⟩
  · have hqq : (z == (r : Int)) = false := beq_eq_false_iff_ne.2 hq
    have HF : Hid (fU toUpperU (a ++ rest) = encodeRune z ++ rest) := by show _ = _; rw [HRES.out, HZ.out, if_neg hq]
    clear hq HRES
    go_enter Tryd.func50, Tryd.ntmps50
    go_wp2_with fail
    refine cD.out.mono ?_
    rintro e w1 ⟨rfl, hb1⟩
    have HB1 := Lib.hid hb1
    clear hb1
    go_wp2_with fail
    refine (cZ.out _ (HT.out.below HB1.out)).mono ?_
    rintro e w2 ⟨rfl, hb2⟩
    have HB2 := Lib.hid (chain HB1.out hb2)
    clear hb2
    go_wp2_with fail
    have HBl2 := Lib.hid (bld_fresh w.heap.size w2 HB2.out.size)
    have HB2a := Lib.hid (HB2.out.alloc HB2.out.size (.cells #[.pointer none, .slice none 0 0] 53))
    refine (bld_any w.heap.size w2.heap.size [] z _ HBl2.out HZI.out (by simp) HB2a.out.size).mono ?_
    rintro e w3 ⟨⟨m3, rfl⟩, hbl3, hb3⟩
    rw [List.nil_append] at hbl3
    have HB3 := Lib.hid (HB2a.out.trans hb3)
    have HBl3 := Lib.hid hbl3
    clear hb3 hbl3
    go_wp2_with fail
    refine (bld_rest w.heap.size w2.heap.size (encodeRune z) rest _ HBl3.out (by omega) HB3.out.size).mono ?_
    rintro e w4 ⟨⟨m4, rfl⟩, hbl4, hb4⟩
    have HB4 := Lib.hid (HB3.out.trans hb4)
    have HBl4 := Lib.hid hbl4
    clear hb4 hbl4
    go_wp2_with fail
    refine (bld_string w.heap.size w2.heap.size _ _ HBl4.out HB4.out.size).mono ?_
    rintro e w5 ⟨rfl, _, hb5, _⟩
    have HB5 := Lib.hid (HB4.out.trans hb5)
    clear hb5
    go_wp2
    go_ret
    exact ⟨ret_str (congrArg txt HF.out.symm), HB5.out⟩

set_option maxHeartbeats 1600000 in
set_option maxRecDepth 100000 in
theorem firstLo_any (l : List UInt8) (w : World) (hl : l.length ≤ 1000000) (hT : Ft w) :
    Calls Tryd.prog 56 #[.string (txt l)] w fun e w' => e = .returned (.string (txt (fU toLowerU l))) ∧ Below w.heap.size w w' := by
  by_cases hne : l = []
  · subst hne
    have he : ((txt ([] : List UInt8)).toList == ([] : List UInt8)) = true := by rw [txt_toList]; rfl
    go_enter Tryd.func56, Tryd.ntmps56
    go_wp2
    go_ret
    exact ⟨rfl, Below.refl _ _⟩
  have he : ((txt l).toList == ([] : List UInt8)) = false := by rw [txt_toList]; exact beq_eq_false_iff_ne.2 hne
  obtain ⟨a, rest, r, rfl, ha, hd, hr, _⟩ := first_part l hne
  obtain ⟨z, hz⟩ : ∃ z, toLowerU (r : Int) = z := ⟨_, rfl⟩
  have HRES := Lib.hid (fU_cons toLowerU a rest r ha hd)
  have hal := List.length_pos_iff.2 ha
  have HRI := Lib.hid (ib_i32 hr)
  have cD := Lib.hid (dec_f a rest r w ha hd hT)
  have hsz := size_pos a rest ha
  have hple := part_le a rest
  have hskip := txt_skip a rest
  have cZ := Lib.hid fun W (h : Ft W) => tl_f r z W hz h
  have HZI : Hid (I32 z) := by show I32 _; rw [← hz]; exact tl_i32 HRI.out
  have HT := Lib.hid hT
  have her := encR_le z
  rw [List.length_append] at hl
  have hsl : (txt (a ++ rest)).size ≤ 1000000 := by rw [txt_size, List.length_append]; exact hl
  have HZ := Lib.hid hz
  clear hd hne hr hT hz
  by_cases hq : z = r
  · have hqq : (z == (r : Int)) = true := by rw [hq]; simp
    have HF : Hid (fU toLowerU (a ++ rest) = a ++ rest) := by show _ = _; rw [HRES.out, HZ.out, if_pos hq]
    clear hq HRES
    go_enter Tryd.func56, Tryd.ntmps56
    go_wp2_with fail
    refine cD.out.mono ?_
    rintro e w1 ⟨rfl, hb1⟩
    have HB1 := Lib.hid hb1
    clear hb1
    go_wp2_with fail
    refine (cZ.out _ (HT.out.below HB1.out)).mono ?_
    rintro e w2 ⟨rfl, hb2⟩
    have HB2 := Lib.hid (chain HB1.out hb2)
    clear hb2
    go_wp2
    go_ret
    exact ⟨ret_str (congrArg txt HF.out.symm), HB2.out⟩
  · have hqq : (z == (r : Int)) = false := beq_eq_false_iff_ne.2 hq
    have HF : Hid (fU toLowerU (a ++ rest) = encodeRune z ++ rest) := by show _ = _; rw [HRES.out, HZ.out, if_neg hq]
    clear hq HRES
    go_enter Tryd.func56, Tryd.ntmps56
    go_wp2_with fail
    refine cD.out.mono ?_
    rintro e w1 ⟨rfl, hb1⟩
    have HB1 := Lib.hid hb1
    clear hb1
    go_wp2_with fail
    refine (cZ.out _ (HT.out.below HB1.out)).mono ?_
    rintro e w2 ⟨rfl, hb2⟩
    have HB2 := Lib.hid (chain HB1.out hb2)
    clear hb2
    go_wp2_with fail
    have HBl2 := Lib.hid (bld_fresh w.heap.size w2 HB2.out.size)
    have HB2a := Lib.hid (HB2.out.alloc HB2.out.size (.cells #[.pointer none, .slice none 0 0] 53))
    refine (bld_any w.heap.size w2.heap.size [] z _ HBl2.out HZI.out (by simp) HB2a.out.size).mono ?_
    rintro e w3 ⟨⟨m3, rfl⟩, hbl3, hb3⟩
    rw [List.nil_append] at hbl3
    have HB3 := Lib.hid (HB2a.out.trans hb3)
    have HBl3 := Lib.hid hbl3
    clear hb3 hbl3
    go_wp2_with fail
    refine (bld_rest w.heap.size w2.heap.size (encodeRune z) rest _ HBl3.out (by omega) HB3.out.size).mono ?_
    rintro e w4 ⟨⟨m4, rfl⟩, hbl4, hb4⟩
    have HB4 := Lib.hid (HB3.out.trans hb4)
    have HBl4 := Lib.hid hbl4
    clear hb4 hbl4
    go_wp2_with fail
    refine (bld_string w.heap.size w2.heap.size _ _ HBl4.out HB4.out.size).mono ?_
    rintro e w5 ⟨rfl, _, hb5, _⟩
    have HB5 := Lib.hid (HB4.out.trans hb5)
    clear hb5
    go_wp2
    go_ret
    exact ⟨ret_str (congrArg txt HF.out.symm), HB5.out⟩
set_option maxHeartbeats 3200000 in
set_option maxRecDepth 100000 in
theorem xswap_any (l : List UInt8) (w : World) (hl : l.length ≤ 1000000) (hT : Ft w) :
    Calls Tryd.prog 57 #[.string (txt l)] w fun e w' => e = .returned (.string (txt (swU l))) ∧ Below w.heap.size w w' := by
  obtain ⟨R, hR⟩ : ∃ R, swU l = R := ⟨_, rfl⟩
  rw [hR]
  have HR := Lib.hid hR.symm
  have HT := Lib.hid hT
  clear hR hT
  go_enter Tryd.func57, Tryd.ntmps57
  go_wp2
  have HB0 := Lib.hid (bld_fresh w.heap.size w (Nat.le_refl _))
  have HW0 := Lib.hid ((Below.refl w.heap.size w).alloc (Nat.le_refl _) (.cells #[.pointer none, .slice none 0 0] 53))
  generalize w.alloc (.cells #[.pointer none, .slice none 0 0] 53) = w0 at *
  go_loopg [0] (l.length + 1) (fun gk s wr => ∃ (o rest : List UInt8), s = .string (txt rest) ∧ rest.length < gk ∧ o.length + 4 * rest.length ≤ 4 * l.length ∧ Hid (R = o ++ swU rest) ∧ Hid (Bld w.heap.size w.heap.size o wr) ∧ Hid (Below w.heap.size w wr))
  case atStart => exact ⟨[], l, rfl, by omega, by simp, HR.out, HB0.out, HW0.out⟩
  case round =>
    obtain ⟨o, rest, rfl, hg, hlen, HI, HBl, HBw⟩ := hrel
    have hbs := HBw.out.size
    by_cases hne : rest = []
    · subst hne
      have hz : (txt ([] : List UInt8)).size = 0 := rfl
      have HF : Hid (R = o) := by show _ = _; rw [HI.out]; exact List.append_nil _
      clear HI
      go_wp2_with fail
      refine (bld_string w.heap.size w.heap.size _ _ HBl.out HBw.out.size).mono ?_
      rintro e w2 ⟨rfl, _, hb2, _⟩
      have HB2 := Lib.hid (HBw.out.trans hb2)
      clear hb2
      go_wp2
      go_ret
      exact ⟨ret_str (congrArg txt HF.out.symm), HB2.out⟩
    · obtain ⟨a, rest2, r, rfl, ha, hd, hr, _⟩ := first_part rest hne
      have hal := List.length_pos_iff.2 ha
      have HRI := Lib.hid (ib_i32 hr)
      rw [List.length_append] at hg hlen
      obtain ⟨gk, rfl⟩ : ∃ m, gk = m + 1 := ⟨gk - 1, by omega⟩
      have cD := Lib.hid (dec_f a rest2 r wr ha hd (HT.out.below HBw.out))
      have hsz := size_pos a rest2 ha
      have hple := part_le a rest2
      have hskip := txt_skip a rest2
      obtain ⟨z, hz⟩ : ∃ z, swR (r : Int) = z := ⟨_, rfl⟩
      have her := encR_le z
      have HN : Hid (R = (o ++ encodeRune z) ++ swU rest2) := by
        show _ = _
        rw [HI.out]
        unfold swU
        rw [rns_cons a rest2 r ha hd, List.flatMap_cons, hz, List.append_assoc]
      clear hd hne hr HI
      cases hu : isUpperU (r : Int) with
      | true =>
        have hz2 : toLowerU (r : Int) = z := by rw [← hz]; unfold swR; rw [if_pos hu]
        have HZ := Lib.hid hz2
        have HU := Lib.hid hu
        have HZI : Hid (I32 z) := by show I32 _; rw [← hz2]; exact tl_i32 HRI.out
        clear hz hz2 hu
        go_wp2_with fail
        refine cD.out.mono ?_
        rintro e w1 ⟨rfl, hb1⟩
        have HB1 := Lib.hid (HBw.out.trans (hb1.mono hbs))
        have HBl1 := Lib.hid (HBl.out.below hb1)
        clear hb1
        go_wp2_with fail
        refine (up_f r true _ HRI.out HU.out (HT.out.below HB1.out)).mono ?_
        rintro e w2 ⟨rfl, hb2⟩
        have HB2 := Lib.hid (HB1.out.trans (hb2.mono HB1.out.size))
        have HBl2 := Lib.hid (HBl1.out.below hb2)
        clear hb2
        go_wp2_with fail
        refine (tl_f r z _ HZ.out (HT.out.below HB2.out)).mono ?_
        rintro e w3 ⟨rfl, hb3⟩
        have HB3 := Lib.hid (HB2.out.trans (hb3.mono HB2.out.size))
        have HBl3 := Lib.hid (HBl2.out.below hb3)
        clear hb3
        go_wp2_with fail
        refine (bld_any w.heap.size w.heap.size o z _ HBl3.out HZI.out (by omega) HB3.out.size).mono ?_
        rintro e w4 ⟨⟨m4, rfl⟩, hbl4, hb4⟩
        have HB4 := Lib.hid (HB3.out.trans hb4)
        have HBl4 := Lib.hid hbl4
        clear hb4 hbl4
        go_wp2
        go_roundg gk
        case rel => exact ⟨o ++ encodeRune z, rest2, rfl, by omega, by rw [List.length_append]; omega, HN.out, HBl4.out, HB4.out⟩
        case measure => omega
      | false =>
        cases hlw : isLowerU (r : Int) with
        | true =>
          have hz2 : toUpperU (r : Int) = z := by rw [← hz]; unfold swR; rw [if_neg (by simp [hu]), if_pos hlw]
          have HZ := Lib.hid hz2
          have HU := Lib.hid hu
          have HLW := Lib.hid hlw
          have HZI : Hid (I32 z) := by show I32 _; rw [← hz2]; exact tu_i32 HRI.out
          clear hz hz2 hu hlw
          go_wp2_with fail
          refine cD.out.mono ?_
          rintro e w1 ⟨rfl, hb1⟩
          have HB1 := Lib.hid (HBw.out.trans (hb1.mono hbs))
          have HBl1 := Lib.hid (HBl.out.below hb1)
          clear hb1
          go_wp2_with fail
          refine (up_f r false _ HRI.out HU.out (HT.out.below HB1.out)).mono ?_
          rintro e w2 ⟨rfl, hb2⟩
          have HB2 := Lib.hid (HB1.out.trans (hb2.mono HB1.out.size))
          have HBl2 := Lib.hid (HBl1.out.below hb2)
          clear hb2
          go_wp2_with fail
          refine (lo_f r true _ HRI.out HLW.out (HT.out.below HB2.out)).mono ?_
          rintro e w3 ⟨rfl, hb3⟩
          have HB3 := Lib.hid (HB2.out.trans (hb3.mono HB2.out.size))
          have HBl3 := Lib.hid (HBl2.out.below hb3)
          clear hb3
          go_wp2_with fail
          refine (tu_f r z _ HZ.out (HT.out.below HB3.out)).mono ?_
          rintro e w4 ⟨rfl, hb4⟩
          have HB4 := Lib.hid (HB3.out.trans (hb4.mono HB3.out.size))
          have HBl4 := Lib.hid (HBl3.out.below hb4)
          clear hb4
          go_wp2_with fail
          refine (bld_any w.heap.size w.heap.size o z _ HBl4.out HZI.out (by omega) HB4.out.size).mono ?_
          rintro e w5 ⟨⟨m5, rfl⟩, hbl5, hb5⟩
          have HB5 := Lib.hid (HB4.out.trans hb5)
          have HBl5 := Lib.hid hbl5
          clear hb5 hbl5
          go_wp2
          go_roundg gk
          case rel => exact ⟨o ++ encodeRune z, rest2, rfl, by omega, by rw [List.length_append]; omega, HN.out, HBl5.out, HB5.out⟩
          case measure => omega
        | false =>
          have hz2 : (r : Int) = z := by rw [← hz]; unfold swR; rw [if_neg (by simp [hu]), if_neg (by simp [hlw])]
          have HU := Lib.hid hu
          have HLW := Lib.hid hlw
          subst hz2
          clear hz hu hlw
          go_wp2_with fail
          refine cD.out.mono ?_
          rintro e w1 ⟨rfl, hb1⟩
          have HB1 := Lib.hid (HBw.out.trans (hb1.mono hbs))
          have HBl1 := Lib.hid (HBl.out.below hb1)
          clear hb1
          go_wp2_with fail
          refine (up_f r false _ HRI.out HU.out (HT.out.below HB1.out)).mono ?_
          rintro e w2 ⟨rfl, hb2⟩
          have HB2 := Lib.hid (HB1.out.trans (hb2.mono HB1.out.size))
          have HBl2 := Lib.hid (HBl1.out.below hb2)
          clear hb2
          go_wp2_with fail
          refine (lo_f r false _ HRI.out HLW.out (HT.out.below HB2.out)).mono ?_
          rintro e w3 ⟨rfl, hb3⟩
          have HB3 := Lib.hid (HB2.out.trans (hb3.mono HB2.out.size))
          have HBl3 := Lib.hid (HBl2.out.below hb3)
          clear hb3
          go_wp2_with fail
          refine (bld_any w.heap.size w.heap.size o r _ HBl3.out HRI.out (by omega) HB3.out.size).mono ?_
          rintro e w4 ⟨⟨m4, rfl⟩, hbl4, hb4⟩
          have HB4 := Lib.hid (HB3.out.trans hb4)
          have HBl4 := Lib.hid hbl4
          clear hb4 hbl4
          go_wp2
          go_roundg gk
          case rel => exact ⟨o ++ encodeRune r, rest2, rfl, by omega, by rw [List.length_append]; omega, HN.out, HBl4.out, HB4.out⟩
          case measure => omega

set_option maxHeartbeats 1600000 in
set_option maxRecDepth 100000 in
theorem lettered_any (l : List UInt8) (w : World) (hT : Ft w) :
    Calls Tryd.prog 24 #[.string (txt l)] w fun e w' => e = .returned (.bool ((rns l).all fun (r : Nat) => !(decide (128 ≤ r) && !isLetterU (r : Int)))) ∧ Below w.heap.size w w' := by
  obtain ⟨R, hR⟩ : ∃ R, ((rns l).all fun (r : Nat) => !(decide (128 ≤ r) && !isLetterU (r : Int))) = R := ⟨_, rfl⟩
  rw [hR]
  have HR := Lib.hid hR.symm
  have HT := Lib.hid hT
  clear hR hT
  go_enter Tryd.func24, Tryd.ntmps24
  go_wp2
  go_loopg [4] (l.length + 1) (fun gk v4 wr => ∃ p rest : List UInt8, Hid (l = p ++ rest) ∧ wr.heap[w.heap.size]? = some (.stringIter (txt l) p.length) ∧ rest.length < gk ∧ Hid (R = ((rns rest).all fun (r : Nat) => !(decide (128 ≤ r) && !isLetterU (r : Int)))) ∧ Hid (Below w.heap.size w wr))
  case atStart => exact ⟨[], l, rfl, World.iter_heap _ _ _, by omega, HR.out, (Below.refl _ _).alloc (Nat.le_refl _) _⟩
  case round =>
    obtain ⟨p, rest, HL, hi, hg, HI, HBw⟩ := hrel
    have hbs := HBw.out.size
    have hlt : w.heap.size < wr.heap.size := (Array.getElem?_eq_some_iff.1 hi).1
    by_cases hne : rest = []
    · subst hne
      have hp : ¬ p.length < (txt l).size := by rw [HL.out, List.append_nil, txt_size]; omega
      have hny := fun ty => @run_next_end_at Tryd.prog wr w.heap.size _ _ ty hi hp
      have HF : Hid (R = true) := HI.out
      clear hp HI
      go_wp2
      go_ret
      exact ⟨by rw [HF.out]; rfl, HBw.out⟩
    · obtain ⟨a, rest2, r, rfl, ha, hd, hr, _⟩ := first_part rest hne
      have hal := List.length_pos_iff.2 ha
      have HRI := Lib.hid (ib_i32 hr)
      have hri := hr.i32
      rw [List.length_append] at hg
      obtain ⟨gk, rfl⟩ : ∃ m, gk = m + 1 := ⟨gk - 1, by omega⟩
      have hny : ∀ ty, (Instr.next (.pointer (some ⟨w.heap.size, 0, none⟩)) true ty).run Tryd.prog wr = .ok (.tuple #[.bool true, .int .i64 p.length, .int .i32 r]) (wr.iterAt w.heap.size (txt l) (p ++ a).length) := fun ty => by
        have := next_part wr w.heap.size p a rest2 r (HL.out ▸ hi) ha hd ty
        rw [← HL.out] at this
        exact this
      have hi2 := iterAt_heap wr w.heap.size (txt l) _ (p ++ a).length hi
      have HB2 := Lib.hid (below_iterAt HBw.out (Nat.le_refl _) (txt l) (p ++ a).length)
      have HN : Hid (R = (!(decide (128 ≤ r) && !isLetterU (r : Int)) && (rns rest2).all fun (r : Nat) => !(decide (128 ≤ r) && !isLetterU (r : Int)))) := by show _ = _; rw [HI.out, rns_cons a rest2 r ha hd]; rfl
      have HL2 : Hid (l = (p ++ a) ++ rest2) := by show _ = _; rw [List.append_assoc]; exact HL.out
      generalize wr.iterAt w.heap.size (txt l) (p ++ a).length = wj at *
      have HI2 := Lib.hid hi2
      clear hi hd hne hr hi2 HI hri
      have hr0 : (0 : Int) ≤ (r : Int) := by omega
      by_cases h8 : (128 : Int) ≤ (r : Int)
      · cases hle : isLetterU (r : Int) with
        | true =>
          have HLE := Lib.hid hle
          have HF : Hid (R = (rns rest2).all fun (r : Nat) => !(decide (128 ≤ r) && !isLetterU (r : Int))) := by show _ = _; rw [HN.out, hle]; simp
          clear hle HN
          go_wp2_with fail
          refine (le_f r true _ HRI.out HLE.out (HT.out.below HB2.out)).mono ?_
          rintro e w3 ⟨rfl, hb3⟩
          have HB3 := Lib.hid (HB2.out.trans (hb3.mono HB2.out.size))
          have HI3 : Hid (w3.heap[w.heap.size]? = some (.stringIter (txt l) (p ++ a).length)) := (hb3.block _ (Array.getElem?_eq_some_iff.1 HI2.out).1).trans HI2.out
          clear hb3
          go_wp2
          go_roundg gk
          case rel => exact ⟨p ++ a, rest2, HL2.out, HI3.out, by omega, HF.out, HB3.out⟩
          case measure => omega
        | false =>
          have HLE := Lib.hid hle
          have HF : Hid (R = false) := by show _ = _; rw [HN.out, hle, decide_eq_true (p := 128 ≤ r) (by omega)]; rfl
          clear hle HN
          go_wp2_with fail
          refine (le_f r false _ HRI.out HLE.out (HT.out.below HB2.out)).mono ?_
          rintro e w3 ⟨rfl, hb3⟩
          have HB3 := Lib.hid (HB2.out.trans (hb3.mono HB2.out.size))
          clear hb3
          go_wp2
          go_ret
          exact ⟨by rw [HF.out]; rfl, HB3.out⟩
      · have HF : Hid (R = (rns rest2).all fun (r : Nat) => !(decide (128 ≤ r) && !isLetterU (r : Int))) := by show _ = _; rw [HN.out, decide_eq_false (p := 128 ≤ r) (by omega)]; rfl
        clear HN
        go_wp2
        go_roundg gk
        case rel => exact ⟨p ++ a, rest2, HL2.out, HI2.out, by omega, HF.out, HB2.out⟩
        case measure => omega

set_option maxHeartbeats 1600000 in
theorem settled1 (s : ByteArray) (b : Bool) (w : World) (hs : s.size ≤ 2147483647) (hb : validD s.data.toList = b) (hT : Ft w) :
    Calls Tryd.prog 53 #[.slice (some ⟨w.heap.size, 0, none⟩) 1 1] (w.alloc (.cells #[.string s] 9)) fun e w' => e = .returned (.bool b) ∧ Below w.heap.size w w' := by
  have hbw : Below w.heap.size w (w.alloc (.cells #[.string s] 9)) := (Below.refl _ _).alloc (Nat.le_refl _) _
  have hc : (w.alloc (.cells #[.string s] 9)).cell? ⟨w.heap.size, 0, none⟩ = some (.string s) := by simp
  have CV := Lib.hid fun W (h : Ft W) => hb ▸ Tryd.utf8_ValidString s W (by omega) h.u8
  have HT := Lib.hid (hT.below hbw)
  have HBW := Lib.hid hbw
  obtain ⟨g, hg⟩ : ∃ g, w.heap.size = g := ⟨_, rfl⟩
  rw [hg] at hc
  have HG := Lib.hid hg
  have hsw : Below (w.alloc (.cells #[.string s] 9)).heap.size (w.alloc (.cells #[.string s] 9)) (w.alloc (.cells #[.string s] 9)) := Below.refl _ _
  generalize w.alloc (.cells #[.string s] 9) = W at *
  have fin : Hid (∀ w', Below W.heap.size W w' → Below w.heap.size w w') := fun w' h => HBW.out.trans (h.mono HBW.out.size)
  rw [hg]
  refine Calls.mono (R := fun e w' => e = .returned (.bool b) ∧ Below W.heap.size W w') ?_ (fun e w' ⟨h1, h2⟩ => ⟨h1, by rw [← HG.out]; exact fin.out w' h2⟩)
  clear hb hs hT hbw hg
  have HC := Lib.hid hc
  clear hc
  go_enter Tryd.func53, Tryd.ntmps53
  go_wp2
  go_loopg [4, 7] 3 (fun gk v4 v7 wr => (v7 = .int .i64 0 ∧ 2 ≤ gk ∧ Hid (wr = W)) ∨ (v7 = .int .i64 1 ∧ 1 ≤ gk ∧ b = true ∧ Hid (Below W.heap.size W wr)))
  case atStart => exact .inl ⟨rfl, by omega, rfl⟩
  case round =>
    rcases hrel with ⟨rfl, hgk, HW⟩ | ⟨rfl, hgk, rfl, HB⟩
    · obtain ⟨gk, rfl⟩ : ∃ m, gk = m + 1 := ⟨gk - 1, by omega⟩
      have hc : wr.cell? ⟨g, 0, none⟩ = some (.string s) := by rw [HW.out]; exact HC.out
      have CV2 := Lib.hid (CV.out wr (by rw [HW.out]; exact HT.out))
      cases b with
      | true =>
        go_wp2_with fail
        refine CV2.out.mono ?_
        rintro e w3 ⟨rfl, hb3⟩
        have HB3 : Hid (Below W.heap.size W w3) := by have h := HW.out; subst h; exact hb3
        clear hb3
        go_wp2
        go_roundg gk
        case rel => exact .inr ⟨by go_num, by omega, by first | trivial | rfl, HB3.out⟩
        case measure => omega
      | false =>
        go_wp2_with fail
        refine CV2.out.mono ?_
        rintro e w3 ⟨rfl, hb3⟩
        have HB3 : Hid (Below W.heap.size W w3) := by have h := HW.out; subst h; exact hb3
        clear hb3
        go_wp2
        go_ret
        exact ⟨rfl, HB3.out⟩
    · go_wp2
      go_ret
      exact ⟨rfl, HB.out⟩

def csR (u lw : Bool) (c : Int) : Int × Int :=
  match cs u lw c with
  | none => (0, 2)
  | some z => (z, 1)
set_option maxHeartbeats 3200000 in
theorem cased_any (r : Int) (u lw : Bool) (w : World) (hr : I32 r) (hT : Ft w) :
    Calls Tryd.prog 54 #[.int .i32 r, .bool u, .bool lw] w fun e w' => e = .returned (.tuple #[.int .i32 (csR u lw r).1, .int .i64 (csR u lw r).2]) ∧ Below w.heap.size w w' := by
  obtain ⟨c, hc⟩ : ∃ c, csR u lw r = c := ⟨_, rfl⟩
  rw [hc]
  unfold csR cs at hc
  obtain ⟨A, hA⟩ : ∃ A, toUpperU r = A := ⟨_, rfl⟩
  obtain ⟨B, hB⟩ : ∃ B, toLowerU r = B := ⟨_, rfl⟩
  have cA := Lib.hid fun W (h : Ft W) => tu_f r A W hA h
  have cB := Lib.hid fun W (h : Ft W) => tl_f r B W hB h
  rw [hA, hB] at hc
  clear hA hB
  have hbr := Below.refl w.heap.size w
  have HT := Lib.hid hT
  clear hT
  cases ht : isTitleU r <;> cases hl : isLowerU r <;> cases hu : isUpperU r <;> cases hA : (A != r) <;> cases hB : (B != r) <;> cases u <;> cases lw
  all_goals
    have cT := Lib.hid fun W (h : Ft W) => ti_f r _ W hr ht h
    have cL := Lib.hid fun W (h : Ft W) => lo_f r _ W hr hl h
    have cU := Lib.hid fun W (h : Ft W) => up_f r _ W hr hu h
    rw [ht, hl, hu, hA, hB] at hc
    simp at hc
    have HC := Lib.hid hc
    clear hc ht hl hu
    go_enter Tryd.func54, Tryd.ntmps54
    go_wp2_with (first
      | (go_at_call 72; refine (cT.out _ (HT.out.below (by assumption))).mono ?_; rintro e wn ⟨rfl, hb⟩; have := chain (w := w) (by assumption) hb)
      | (go_at_call 73; refine (cL.out _ (HT.out.below (by assumption))).mono ?_; rintro e wn ⟨rfl, hb⟩; have := chain (w := w) (by assumption) hb)
      | (go_at_call 74; refine (cU.out _ (HT.out.below (by assumption))).mono ?_; rintro e wn ⟨rfl, hb⟩; have := chain (w := w) (by assumption) hb)
      | (go_at_call 67; refine (cA.out _ (HT.out.below (by assumption))).mono ?_; rintro e wn ⟨rfl, hb⟩; have := chain (w := w) (by assumption) hb)
      | (go_at_call 75; refine (cB.out _ (HT.out.below (by assumption))).mono ?_; rintro e wn ⟨rfl, hb⟩; have := chain (w := w) (by assumption) hb))
    go_ret2
    exact ⟨by rw [← HC.out]; rfl, by assumption⟩

end Go.Proofs.YthanbbflemkomaaDoor
