/- NewTranslator: neither '^' ahead nor an empty second pattern. -/
import Derived.Test.YtbomlhhpokknaaaDoorTNew
namespace Go.Proofs.YtbomlhhpokknaaaDoor
open Go.RowKit U8
open Go.Lib hiding intOf

set_option maxHeartbeats 6400000 in
set_option maxRecDepth 100000 in
theorem newtr_D (l tx : List UInt8) (w : World) (hne : l ≠ []) (htx : tx ≠ []) (hl : l.length ≤ 10000) (ht : tx.length ≤ 10000) (hrev : isRev l = false) (hT : Tabs w) :
    Calls Tryd.prog 26 #[.string (txt l), .string (txt tx)] w (NewPost w (newTr l tx)) := by
  have hsz : 0 < (txt l).size := by rw [txt_size]; exact List.length_pos_iff.2 hne
  have hx := hd_rev hne hsz
  rw [hrev] at hx
  have he : (txt l).toList.isEmpty = false := by rw [txt_toList]; exact List.isEmpty_eq_false_iff.2 hne
  have hd : (((txt tx).size : Int) == 0) = false := by
    have := List.length_pos_iff.2 htx
    rw [txt_size]; simp; omega
  obtain ⟨F, hF⟩ : ∃ F, outer l.length Tr.nil (cu0 false tx) (-1) l = F := ⟨_, rfl⟩
  have HX : Hid (newTr l tx = ⟨(final F).1, -1, false, false, true⟩) := by
    show _ = _
    unfold newTr
    rw [if_neg hne, hrev]
    simp only [Bool.false_eq_true, if_false]
    rw [hF]
    simp [htx]
  obtain ⟨hCu, hTr, hBw, hSz⟩ := init_st w tx 0 0
  have K := Lib.hid (init_bks w.heap.size)
  have hSg : SgAt (w.heap.size + 5) (.slice none 0 0) [] (((((w.alloc (.cells #[.string (txt tx)] 9)).alloc (.cells #[.pointer none, .map none, .slice none 0 0, .int .i32 0, .bool false, .bool false, .bool false] 61)).alloc (.cells #[.int .i32 0] 21)).alloc (.cells #[.int .i32 0] 21)).alloc (.cells #[.int .i32 0] 21)) := World.ownsRow_nil _ _ _ _
  obtain ⟨R, hR⟩ : ∃ R, nrr tx.length (-1) false false tx = R := ⟨_, rfl⟩
  have hRo := nrr_ok tx.length (-1) false false tx (Nat.le_refl _) (.inl rfl)
  rw [hR] at hRo
  have hc0 := (Cu.of_ok hRo).mono ht
  have ec0 : cu0 false tx = Cu.of R := by unfold cu0; rw [if_neg htx]; simp only [Bool.false_eq_true, if_false, hR]
  rw [ec0] at hF
  have cN := Lib.hid fun W (h : Tabs W) => next_range tx (-1) W (by omega) h R hR
  have HF := Lib.hid hF.symm
  clear ec0 hR
  have HS := Lib.hid (show St (w.heap.size + 5) (w.heap.size + 1) (w.heap.size + 1 + 1 + 1) (w.heap.size + 1 + 1 + 1 + 1) w.heap.size (w.heap.size + 1 + 1) w Tr.nil ⟨tx, 0, 0, 0⟩ (.slice none 0 0) _ from ⟨hTr, hSg, hCu, hBw, by rw [hSz]; exact Nat.le_refl _, Tr.nil_ok, ⟨⟨by simp, by simp⟩, .inr ⟨by simp, by simp⟩, .inr (.inl rfl), ht⟩⟩)
  clear hF hCu hTr hBw hSz hSg
  go_enter Tryd.func26, Tryd.ntmps26
  go_wp2_with fail
  refine (cN.out _ (hT.below HS.out.bw)).mono ?_
  rintro e w1 ⟨rfl, hb1⟩
  have HS1 := Lib.hid (HS.out.below hb1)
  obtain ⟨ce, cs, ct, cx, fe, fs, ft, fx⟩ := HS1.out.cu.facts
  obtain ⟨n1, n2, n3, n4, n5, n6, _, _, _, _, _, _, _, _, _, _, _, _, _, _⟩ := K.out
  have hall := HS1.out.cu.all (d := Cu.of R) n1 n2 n3 n4 n5 n6
  have HS2 := Lib.hid (HS1.out.cap K.out hall (((((Cap.refl _ _ _ _ _).set (.inr (.inr (.inl rfl))) _).set (.inr (.inr (.inr rfl))) _).set (.inl rfl) _).set (.inr (.inl rfl)) _) hc0)
  clear hall hb1 HS HS1 cN
  go_wp2
  clear ce cs ct cx fe fs ft fx hx he hd n1 n2 n3 n4 n5 n6 hRo
  have hmu0 := mu_le hc0
  clear hc0
  generalize w.heap.size + 1 + 1 + 1 + 1 = bs at *
  generalize w.heap.size + 1 + 1 + 1 = be at *
  generalize w.heap.size + 1 + 1 = bx at *
  generalize w.heap.size + 1 = b at *
  generalize w.heap.size + 5 = B at *

  go_loopg [0, 9, 16] (l.length + 1) (fun gk s fe sg wr => ∃ (r : List UInt8) (T : Tr) (c : Cu) (x : Int) (f : Nat), s = .string (txt r) ∧ fe = .int .i32 x ∧ r.length ≤ f ∧ f < gk ∧ r.length ≤ 10000 ∧ (x = -1 ∨ Cp x) ∧ T.adds + 3 * c.mu + 2 * r.length ≤ 90000 ∧ Hid (F = outer f T c x r) ∧ Hid (St B b be bs w.heap.size bx w T c sg wr))
  case atStart => exact ⟨l, Tr.nil, Cu.of R, -1, l.length, rfl, rfl, Nat.le_refl _, by omega, hl, .inl rfl, by have := hmu0; have e0 : Tr.nil.adds = 0 := rfl; omega, HF.out, HS2.out⟩
  case round =>
    obtain ⟨r, T, c, x, f, rfl, rfl, hf, hg, hr, hx, hp, HF1, HS1⟩ := hrel
    obtain ⟨wo, rfl⟩ : ∃ wo : World, wo = wr := ⟨_, rfl⟩
    clear HS2 HF hmu0
    by_cases hnil : r = []
    · subst hnil
      have h0 : (txt ([] : List UInt8)).size ≤ 0 := Nat.le_refl _
      have ex := HF1.out
      rw [outer_nil] at ex
      by_cases hx1 : x = -1
      · subst hx1
        have HE : Hid (newTr l tx = ⟨T, -1, false, false, true⟩) := by show _ = _; rw [HX.out, ex]; rfl
        obtain ⟨⟨d3, d4, d5, d6⟩, ⟨g3, g4, g5, g6⟩, hfin1, hfin2⟩ := tr_fin HS1.out.tr false false c.st
        have hgb := K.out.g5
        have HFN := Lib.hid hfin1
        clear hfin1 hfin2 ex HF1 K
        obtain ⟨ce, cs, ct, cx, fe, fs, ft, fx⟩ := HS1.out.cu.facts
        go_wp2
        go_ret
        exact NewPost.of rfl ⟨by rw [HE.out]; exact HFN.out, by rw [HE.out]; exact HS1.out.ok, by rw [HE.out]; have h := HS1.out.co.st; unfold Cp at h; constructor <;> (dsimp only; omega)⟩ ((((HS1.out.bw.setCell hgb _).setCell hgb _).setCell hgb _).setCell hgb _)
      · have hcx : Cp x := hx.resolve_left hx1
        have hxb : (x != -1) = true := by simp [hx1]
        have HE : Hid (newTr l tx = ⟨T.addRune x c.st, -1, false, false, true⟩) := by
          show _ = _
          have : final (T, c, x) = (T.addRune x c.st, c) := by unfold final; rw [if_neg hx1]
          rw [HX.out, ex, this]
        clear ex HF1
        obtain ⟨ce, cs, ct, cx, fe, fs, ft, fx⟩ := HS1.out.cu.facts
        go_wp2_with fail
        refine (HS1.out.rune K.out x hcx (by omega)).mono ?_
        rintro e w2 ⟨sg', rfl, hs3⟩
        have HS2 := Lib.hid hs3
        clear ce cs ct cx fe fs ft fx HS1
        obtain ⟨⟨d3, d4, d5, d6⟩, ⟨g3, g4, g5, g6⟩, hfin1, hfin2⟩ := tr_fin HS2.out.tr false false c.st
        have hgb := K.out.g5
        have HFN := Lib.hid hfin1
        clear hfin1 hfin2 K hs3
        obtain ⟨ce, cs, ct, cx, fe, fs, ft, fx⟩ := HS2.out.cu.facts
        go_wp2
        go_ret
        exact NewPost.of rfl ⟨by rw [HE.out]; exact HFN.out, by rw [HE.out]; exact HS2.out.ok, by rw [HE.out]; have h := HS2.out.co.st; unfold Cp at h; constructor <;> (dsimp only; omega)⟩ ((((HS2.out.bw.setCell hgb _).setCell hgb _).setCell hgb _).setCell hgb _)
    · obtain ⟨Q, hQ⟩ : ∃ Q, nrr r.length x false false r = Q := ⟨_, rfl⟩
      have hQo := nrr_ok r.length x false false r (Nat.le_refl _) hx
      rw [hQ] at hQo
      obtain ⟨f, rfl⟩ : ∃ m, f = m + 1 := ⟨f - 1, by have := List.length_pos_iff.2 hnil; omega⟩
      obtain ⟨go, rfl⟩ : ∃ m, gk = m + 1 := ⟨gk - 1, by omega⟩
      have cN := Lib.hid (next_range r x wo (by omega) (hT.below HS1.out.bw) Q hQ)
      have hlen := hQo.lt hnil
      have hszr : 0 < (txt r).size := by rw [txt_size]; exact List.length_pos_iff.2 hnil
      by_cases h0 : Q.2.2.2 = 0
      · have HF2 : Hid (F = _) := HF1.out.trans (outer_one f T c x r Q hnil hQ h0)
        have hst := hQo.st
        have hen := hQo.en
        have hmu := Cu.upd_len c HS1.out.co.en
        have had := adds_rune T Q.2.1 c.st
        obtain ⟨r', s, e', sp⟩ := Q
        dsimp only at *
        subst h0
        clear HF1 hQ hQo
        go_wp2_with fail
        refine cN.out.mono ?_
        rintro e w1 ⟨rfl, hb1⟩
        have HS2 := Lib.hid (HS1.out.below hb1)
        obtain ⟨ce, cs, ct, cx, fe, fs, ft, fx⟩ := HS2.out.cu.facts
        go_wp2_with fail
        refine (HS2.out.rune K.out s hst (by omega)).mono ?_
        rintro e w2 ⟨sg', rfl, hs3⟩
        have HS3 := Lib.hid hs3
        clear ce cs ct cx fe fs ft fx
        clear hs3 HS2
        go_wp2_with fail
        refine (HS3.out.step K.out hT).mono ?_
        rintro e w3 ⟨rfl, hs4⟩
        have HS4 := Lib.hid hs4
        clear hs4 HS3
        go_wp2_with fail
        go_roundg go
        case rel => exact ⟨r', _, _, e', f, rfl, rfl, by omega, by omega, by omega, hen, by omega, HF2.out, HS4.out⟩
        case measure => omega
      · obtain ⟨r', s, e', sp⟩ := Q
        dsimp only at *
        have hce : Cp e' := by
          rcases hQo.en with h | h
          · exact absurd (hQo.zero h).1 h0
          · exact h
        have hcs : Cp s := hQo.st
        have hos : (sp = 1 ∧ s ≤ e') ∨ (sp = -1 ∧ e' ≤ s) := by
          have h := hQo.sp
          dsimp only at h
          omega
        obtain ⟨I, hI⟩ : ∃ I, inner e' sp (c.mu + 1) T c s = I := ⟨_, rfl⟩
        have HF2 : Hid (F = if I.2.2 = e' then outer f I.1 I.2.1 (-1) r' else outer f (I.1.addRange I.2.2 e' I.2.1.st I.2.1.st) I.2.1 (-1) r') := HF1.out.trans (outer_rng f T c x r (r', s, e', sp) I hnil hQ h0 hI)
        have HI0 := Lib.hid hI.symm
        have hsb : (sp == 0) = false := by simp [h0]
        have hsb2 : sp = 1 ∨ sp = -1 := by omega
        clear HF1 hQ hQo hI
        go_wp2_with fail
        refine cN.out.mono ?_
        rintro e w1 ⟨rfl, hb1⟩
        have HS2 := Lib.hid (HS1.out.below hb1)
        clear hb1 HS1 cN
        go_wp2
        go_loopg [8, 16] (c.mu + 2) (fun gk fs sg wr => ∃ (T2 : Tr) (c2 : Cu) (y : Int) (f2 : Nat), fs = .int .i32 y ∧ c2.mu < f2 ∧ f2 < gk ∧ Cp y ∧ ((sp = 1 ∧ y ≤ e') ∨ (sp = -1 ∧ e' ≤ y)) ∧ T2.adds + 3 * c2.mu + 2 * r'.length + 2 ≤ 90000 ∧ Hid (I = inner e' sp f2 T2 c2 y) ∧ Hid (St B b be bs w.heap.size bx w T2 c2 sg wr))
        case atStart => exact ⟨T, c, s, c.mu + 1, rfl, by omega, by omega, hcs, hos, by omega, HI0.out, HS2.out⟩
        case round =>
          obtain ⟨T2, c2, y, f2, rfl, hf2, hg2, hcy, hoy, hp2, HI, HS3⟩ := hrel
          clear HS2 HI0 hos hcs
          obtain ⟨f2, rfl⟩ : ∃ m, f2 = m + 1 := ⟨f2 - 1, by omega⟩
          obtain ⟨gk, rfl⟩ : ∃ m, gk = m + 1 := ⟨gk - 1, by omega⟩
          obtain ⟨wi, rfl⟩ : ∃ wi : World, wi = wr := ⟨_, rfl⟩
          have hco := Lib.hid HS3.out.co
          obtain ⟨ce, cs, ct, cx, fe, fs, ft, fx⟩ := HS3.out.cu.facts
          by_cases he1 : c2.en = -1
          · have HI2 : Hid (I = (T2, c2, y)) := HI.out.trans (inner_exit e' sp f2 T2 c2 y (fun h => h.1 he1))
            have hbn : (c2.en != -1) = false := by simp [he1]
            clear HI he1
            by_cases hye : y = e'
            · have hyb : (y == e') = true := by simp [hye]
              have HF3 : Hid (F = outer f T2 c2 (-1) r') := by show _ = _; rw [HF2.out, HI2.out, if_pos hye]
              clear HF2 HI2 hye
              go_wp2
              go_roundg go
              case rel => exact ⟨r', T2, c2, -1, f, rfl, rfl, by omega, by omega, by omega, .inl rfl, by omega, HF3.out, HS3.out⟩
              case measure => omega
            · have hyb : (y == e') = false := by simp [hye]
              have HF3 : Hid (F = outer f (T2.addRange y e' c2.st c2.st) c2 (-1) r') := by show _ = _; rw [HF2.out, HI2.out, if_neg hye]
              have had := adds_range T2 y e' c2.st c2.st
              clear HF2 HI2 hye
              go_wp2_with fail
              refine (HS3.out.range K.out y e' c2.st c2.st hcy hce hco.out.st hco.out.st (by omega)).mono ?_
              rintro e w4 ⟨rfl, h4⟩
              clear ce cs ct cx fe fs ft fx
              have HS4 := Lib.hid h4
              clear h4 HS3
              obtain ⟨ce, cs, ct, cx, fe, fs, ft, fx⟩ := HS4.out.cu.facts
              have HS5 := Lib.hid (HS4.out.setst K.out c2.st hco.out)
              clear HS4
              go_wp2
              go_roundg go
              case rel => exact ⟨r', _, c2, -1, f, rfl, rfl, by omega, by omega, by omega, .inl rfl, by omega, HF3.out, HS5.out⟩
              case measure => omega
          · have hcE : Cp c2.en := hco.out.en.resolve_left he1
            have hbn : (c2.en != -1) = true := by simp [he1]
            by_cases hye : y = e'
            · have HI2 : Hid (I = (T2, c2, y)) := HI.out.trans (inner_exit e' sp f2 T2 c2 y (fun h => h.2 hye))
              have hyb : (y == e') = true := by simp [hye]
              have hyc : (y != e') = false := by simp [hye]
              have HF3 : Hid (F = outer f T2 c2 (-1) r') := by show _ = _; rw [HF2.out, HI2.out, if_pos hye]
              clear HF2 HI2 hye HI he1
              go_wp2
              go_roundg go
              case rel => exact ⟨r', T2, c2, -1, f, rfl, rfl, by omega, by omega, by omega, .inl rfl, by omega, HF3.out, HS3.out⟩
              case measure => omega
            · have hyc : (y != e') = true := by simp [hye]
              by_cases hz : c2.sp = 0
              · obtain ⟨hs1, hs2, hs3⟩ := step_in hcy hce hoy hye
                have hzb : (c2.sp == 0) = true := by simp [hz]
                have hmu := Cu.upd_lt0 c2 hcE hz
                have had := adds_rune T2 y c2.st
                by_cases h1 : y + sp = e'
                · have HI2 : Hid (I = _) := HI.out.trans (inner_a1 e' sp f2 T2 c2 y he1 hye hz h1)
                  have h1b : (y + sp == e') = true := by simp [h1]
                  have hmu2 := Cu.upd_len c2.upd (Cu.upd_ok hco.out).en
                  have had2 := adds_rune (T2.addRune y c2.st) (y + sp) c2.upd.st
                  clear HI hz h1 he1 hye
                  go_wp2_with fail
                  refine (HS3.out.rune K.out y hcy (by omega)).mono ?_
                  rintro e w4 ⟨sg4, rfl, h4⟩
                  clear ce cs ct cx fe fs ft fx
                  have HS4 := Lib.hid h4
                  clear h4 HS3
                  go_wp2_with fail
                  refine (HS4.out.step K.out hT).mono ?_
                  rintro e w5 ⟨rfl, h5⟩
                  have HS5 := Lib.hid h5
                  clear h5 HS4
                  obtain ⟨ce, cs, ct, cx, fe, fs, ft, fx⟩ := HS5.out.cu.facts
                  go_wp2_with fail
                  refine (HS5.out.rune K.out (y + sp) hs1 (by omega)).mono ?_
                  rintro e w6 ⟨sg6, rfl, h6⟩
                  clear ce cs ct cx fe fs ft fx
                  have HS6 := Lib.hid h6
                  clear h6 HS5
                  go_wp2_with fail
                  refine (HS6.out.step K.out hT).mono ?_
                  rintro e w7 ⟨rfl, h7⟩
                  have HS7 := Lib.hid h7
                  clear h7 HS6
                  go_wp2_with fail
                  go_roundg gk
                  case rel => exact ⟨_, _, _, f2, rfl, by omega, by omega, hs1, hs2, by omega, HI2.out, HS7.out⟩
                  case measure => omega
                · have HI2 : Hid (I = _) := HI.out.trans (inner_a2 e' sp f2 T2 c2 y he1 hye hz h1)
                  have h1b : (y + sp == e') = false := by simp [h1]
                  clear HI hz h1 he1 hye
                  go_wp2_with fail
                  refine (HS3.out.rune K.out y hcy (by omega)).mono ?_
                  rintro e w4 ⟨sg4, rfl, h4⟩
                  clear ce cs ct cx fe fs ft fx
                  have HS4 := Lib.hid h4
                  clear h4 HS3
                  go_wp2_with fail
                  refine (HS4.out.step K.out hT).mono ?_
                  rintro e w5 ⟨rfl, h5⟩
                  have HS5 := Lib.hid h5
                  clear h5 HS4
                  go_wp2_with fail
                  go_roundg gk
                  case rel => exact ⟨_, _, _, f2, rfl, by omega, by omega, hs1, hs2, by omega, HI2.out, HS5.out⟩
                  case measure => omega
              · have hzb : (c2.sp == 0) = false := by simp [hz]
                have h2 : (c2.sp = 1 ∧ c2.st ≤ c2.en) ∨ (c2.sp = -1 ∧ c2.en ≤ c2.st) := by
                  rcases hco.out.sp with h | h | h
                  · exact absurd h he1
                  · exact absurd h hz
                  · exact h
                obtain ⟨a1, a2, a3, a4⟩ := ar_of hcy hce hco.out.st hcE hoy h2
                by_cases hlt : (c2.en - c2.st) * c2.sp < (e' - y) * sp
                · obtain ⟨a5, a6, a7, a8, a9, a10⟩ := arl_of hcy hce hoy h2 hlt
                  have hmu := Cu.upd_lt1 c2 hcE hz
                  have hok1 : ({ c2 with st := c2.en } : Cu).Ok 10000 := ⟨hcE, hco.out.en, .inr (.inr (h2.imp (fun h => ⟨h.1, Int.le_refl _⟩) (fun h => ⟨h.1, Int.le_refl _⟩))), hco.out.len⟩
                  have had := adds_range T2 y (y + (c2.en - c2.st) * c2.sp * sp) c2.st c2.en
                  have HLT := Lib.hid hlt
                  by_cases h1 : y + (c2.en - c2.st) * c2.sp * sp + sp = e'
                  · have HI2 : Hid (I = _) := HI.out.trans (inner_b1 e' sp f2 T2 c2 y he1 hye hz hlt h1)
                    have h1b : (y + (c2.en - c2.st) * c2.sp * sp + sp == e') = true := by simp [h1]
                    have hmu2 := Cu.upd_len ({ c2 with st := c2.en } : Cu).upd (Cu.upd_ok hok1).en
                    have had2 := adds_rune (T2.addRange y (y + (c2.en - c2.st) * c2.sp * sp) c2.st c2.en) (y + (c2.en - c2.st) * c2.sp * sp + sp) ({ c2 with st := c2.en } : Cu).upd.st
                    clear HI hz h1 he1 hye h2
                    go_wp2_with fail
                    refine (HS3.out.range K.out y (y + (c2.en - c2.st) * c2.sp * sp) c2.st c2.en hcy a8 hco.out.st hcE (by omega)).mono ?_
                    rintro e w4 ⟨rfl, h4⟩
                    clear ce cs ct cx fe fs ft fx
                    have HS4 := Lib.hid h4
                    clear h4 HS3
                    obtain ⟨ce, cs, ct, cx, fe, fs, ft, fx⟩ := HS4.out.cu.facts
                    have HS5 := Lib.hid (HS4.out.setst K.out c2.en hok1)
                    clear HS4
                    go_wp2_with fail
                    clear ce cs ct cx fe fs ft fx
                    refine (HS5.out.step K.out hT).mono ?_
                    rintro e w6 ⟨rfl, h6⟩
                    have HS6 := Lib.hid h6
                    clear h6 HS5
                    obtain ⟨ce, cs, ct, cx, fe, fs, ft, fx⟩ := HS6.out.cu.facts
                    go_wp2_with fail
                    refine (HS6.out.rune K.out (y + (c2.en - c2.st) * c2.sp * sp + sp) a9 (by omega)).mono ?_
                    rintro e w7 ⟨sg7, rfl, h7⟩
                    clear ce cs ct cx fe fs ft fx
                    have HS7 := Lib.hid h7
                    clear h7 HS6
                    go_wp2_with fail
                    refine (HS7.out.step K.out hT).mono ?_
                    rintro e w8 ⟨rfl, h8⟩
                    have HS8 := Lib.hid h8
                    clear h8 HS7
                    go_wp2_with fail
                    go_roundg gk
                    case rel => exact ⟨_, _, _, f2, rfl, by omega, by omega, a9, a10, by omega, HI2.out, HS8.out⟩
                    case measure => omega
                  · have HI2 : Hid (I = _) := HI.out.trans (inner_b2 e' sp f2 T2 c2 y he1 hye hz hlt h1)
                    have h1b : (y + (c2.en - c2.st) * c2.sp * sp + sp == e') = false := by simp [h1]
                    clear HI hz h1 he1 hye h2
                    go_wp2_with fail
                    refine (HS3.out.range K.out y (y + (c2.en - c2.st) * c2.sp * sp) c2.st c2.en hcy a8 hco.out.st hcE (by omega)).mono ?_
                    rintro e w4 ⟨rfl, h4⟩
                    clear ce cs ct cx fe fs ft fx
                    have HS4 := Lib.hid h4
                    clear h4 HS3
                    obtain ⟨ce, cs, ct, cx, fe, fs, ft, fx⟩ := HS4.out.cu.facts
                    have HS5 := Lib.hid (HS4.out.setst K.out c2.en hok1)
                    clear HS4
                    go_wp2_with fail
                    clear ce cs ct cx fe fs ft fx
                    refine (HS5.out.step K.out hT).mono ?_
                    rintro e w6 ⟨rfl, h6⟩
                    have HS6 := Lib.hid h6
                    clear h6 HS5
                    go_wp2_with fail
                    go_roundg gk
                    case rel => exact ⟨_, _, _, f2, rfl, by omega, by omega, a9, a10, by omega, HI2.out, HS6.out⟩
                    case measure => omega
                · obtain ⟨a5, a6, a7, a8⟩ := arg_of hcy hce hco.out.st hcE hoy h2 hlt
                  have HI2 : Hid (I = _) := HI.out.trans (inner_c e' sp f2 T2 c2 y he1 hye hz hlt)
                  have hok1 := cu_mv hco.out a7 a8
                  have had := adds_range T2 y e' c2.st (c2.st + (e' - y) * sp * c2.sp)
                  have hmu := Cu.upd_len ({ c2 with st := c2.st + (e' - y) * sp * c2.sp } : Cu) hco.out.en
                  have hmu2 : ({ c2 with st := c2.st + (e' - y) * sp * c2.sp } : Cu).mu = c2.mu := rfl
                  have HF3 : Hid (F = outer f (T2.addRange y e' c2.st (c2.st + (e' - y) * sp * c2.sp)) ({ c2 with st := c2.st + (e' - y) * sp * c2.sp } : Cu).upd (-1) r') := by show _ = _; rw [HF2.out, HI2.out, if_pos rfl]
                  have hyb : (e' == e') = true := by simp
                  have HLT := Lib.hid hlt
                  clear HI hz he1 hye h2 HF2 HI2
                  go_wp2_with fail
                  refine (HS3.out.range K.out y e' c2.st (c2.st + (e' - y) * sp * c2.sp) hcy hce hco.out.st a7 (by omega)).mono ?_
                  rintro e w4 ⟨rfl, h4⟩
                  clear ce cs ct cx fe fs ft fx
                  have HS4 := Lib.hid h4
                  clear h4 HS3
                  obtain ⟨ce, cs, ct, cx, fe, fs, ft, fx⟩ := HS4.out.cu.facts
                  have HS5 := Lib.hid (HS4.out.setst K.out _ hok1)
                  clear HS4
                  go_wp2_with fail
                  clear ce cs ct cx fe fs ft fx
                  refine (HS5.out.step K.out hT).mono ?_
                  rintro e w6 ⟨rfl, h6⟩
                  have HS6 := Lib.hid h6
                  clear h6 HS5
                  go_wp2
                  go_roundg go
                  case rel => exact ⟨r', _, _, -1, f, rfl, rfl, by omega, by omega, by omega, .inl rfl, by omega, HF3.out, HS6.out⟩
                  case measure => omega

end Go.Proofs.YtbomlhhpokknaaaDoor
