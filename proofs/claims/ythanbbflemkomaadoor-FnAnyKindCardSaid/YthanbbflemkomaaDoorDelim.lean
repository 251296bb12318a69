/- The contract of strcase's ToScreamingDelimited, at texts of ASCII. -/
import Derived.Test.YthanbbflemkomaaDoorCamel
import Derived.Test.YthanbbflemkomaaDoorCHas
import Derived.Deep.Cut
import Derived.Deep.CutRange
import Derived.Deep.DeepCutAuto
namespace Go.Proofs.YthanbbflemkomaaDoor
open Go.RowKit U8
open Go.Lib hiding intOf

theorem encode_byte (b : UInt8) (h : b.toNat < 128) : Utf8.encode (b.toNat : Int) = txt [b] := by
  rw [encode_enc1 b.toNat (by unfold Sc; omega), enc1_asc h]
  simp
/-- What a round of the loop keeps: the builder, the row of bytes, and what stood there before. -/
structure DI (w : World) (b g : Nat) (x : Array Value) (fz : Nat × Nat) (o : List UInt8) (W : World) : Prop where
  bld : BldN w.heap.size b g o W
  row : W.heap[g]? = some (.cells x 5 fz)
  bel : Below w.heap.size w W
theorem BldN.below {B b g : Nat} {l : List UInt8} {w w' : World} (h : BldN B b g l w) (hb : Below w.heap.size w w') : BldN B b g l w' := by
  obtain ⟨hB, hbg, hgw, v, hbk, hown, hne, hng⟩ := h
  refine ⟨hB, hbg, Nat.lt_of_lt_of_le hgw hb.size, v, (hb.block b (by omega)).trans hbk, ⟨hown.1, ?_⟩, hne, hng⟩
  rcases hown.2 with h2 | ⟨g, cap, cur, fz, hv, hg, hh, r⟩
  · exact .inl h2
  · exact .inr ⟨g, cap, cur, fz, hv, hg, (hb.block g (Array.getElem?_eq_some_iff.1 hh).1).trans hh, r⟩
theorem DI.below {w : World} {b g : Nat} {x : Array Value} {fz : Nat × Nat} {o : List UInt8} {W W' : World} (h : DI w b g x fz o W) (hb : Below W.heap.size W W') : DI w b g x fz o W' :=
  ⟨h.bld.below hb, (hb.block g h.bld.2.2.1).trans h.row, h.bel.trans (hb.mono h.bel.size)⟩
theorem di_byte {w : World} {b g : Nat} {x : Array Value} {fz : Nat × Nat} {o : List UInt8} {c : Int} {W : World} (h : DI w b g x fz o W) (h0 : 0 ≤ c) (h1 : c ≤ 255) (hl : o.length ≤ 1000000000) :
    Calls Tryd.prog 62 #[.pointer (some ⟨b, 0, none⟩), .int .u8 c] W fun e w' => e = .returned .nilIface ∧ DI w b g x fz (o ++ [c.toNat.toUInt8]) w' := by
  refine (bldN_byte w.heap.size b g o c W h.bld h0 h1 (by omega)).mono ?_
  rintro e w' ⟨rfl, hb, hbe, hg⟩
  exact ⟨rfl, hb, hg.trans h.row, h.bel.trans hbe⟩
theorem di_has {w : World} {b g : Nat} {x : Array Value} {fz : Nat × Nat} {o : List UInt8} (y : UInt8) (ig : List UInt8) {W : World} (h : DI w b g x fz o W) (hy : y.toNat < 128) :
    Calls Tryd.prog 61 #[.string (txt [y]), .string (txt ig)] W fun e w' => e = .returned (.bool (hasR ig y.toNat)) ∧ DI w b g x fz o w' := by
  refine (has_any y ig W hy).mono ?_
  rintro e w' ⟨rfl, hb⟩
  exact ⟨rfl, h.below hb⟩

theorem u8_of {c : Int} {x : UInt8} (h : c = (x.toNat : Int)) : c.toNat.toUInt8 = x := by
  apply UInt8.toNat_inj.1
  have := x.toNat_lt
  rw [h, Int.toNat_natCast, u8n (by omega)]
theorem out1 {o D : List UInt8} {x1 : UInt8} {c1 : Int} (h1 : c1 = (x1.toNat : Int)) : o ++ ([x1] ++ D) = (o ++ [c1.toNat.toUInt8]) ++ D := by rw [u8_of h1, List.append_assoc]
theorem out2 {o D : List UInt8} {x1 x2 : UInt8} {c1 c2 : Int} (h1 : c1 = (x1.toNat : Int)) (h2 : c2 = (x2.toNat : Int)) : o ++ ([x1, x2] ++ D) = ((o ++ [c1.toNat.toUInt8]) ++ [c2.toNat.toUInt8]) ++ D := by rw [u8_of h1, u8_of h2]; simp
theorem out3 {o D : List UInt8} {x1 x2 x3 : UInt8} {c1 c2 c3 : Int} (h1 : c1 = (x1.toNat : Int)) (h2 : c2 = (x2.toNat : Int)) (h3 : c3 = (x3.toNat : Int)) : o ++ ([x1, x2, x3] ++ D) = (((o ++ [c1.toNat.toUInt8]) ++ [c2.toNat.toUInt8]) ++ [c3.toNat.toUInt8]) ++ D := by rw [u8_of h1, u8_of h2, u8_of h3]; simp

/-- Which bytes are to be ignored. -/
def igB (ig : List UInt8) (b : UInt8) : Bool := hasR ig b.toNat

set_option linter.unusedSimpArgs false in
set_option maxHeartbeats 20000000 in
set_option maxRecDepth 100000 in
theorem delim_any (l : List UInt8) (d : UInt8) (ig : List UInt8) (scr : Bool) (w : World) (hl : l.length ≤ 1000000) (ha : ∀ b ∈ l, b.toNat < 128) (hS : Spc w) :
    Calls Tryd.prog 40 #[.string (txt l), .int .u8 d.toNat, .string (txt ig), .bool scr] w fun e w' => e = .returned (.string (txt (del d scr (igB ig) none (trimSpaceD l)))) ∧ Below w.heap.size w w' := by
  have hlen := trim_len l
  have cT := Lib.hid (trim_any l w hl hS)
  have hsub : ∀ b ∈ trimSpaceD l, b.toNat < 128 := fun b hb => ha b (trim_sub l b (by rw [← trim_asc l ha]; exact hb))
  obtain ⟨t, ht⟩ : ∃ t, trimSpaceD l = t := ⟨_, rfl⟩
  rw [ht] at hlen cT hsub ⊢
  obtain ⟨R, hR⟩ : ∃ R, del d scr (igB ig) none t = R := ⟨_, rfl⟩
  have hRl := del_len d scr (igB ig) none t
  rw [hR] at hRl ⊢
  have HR := Lib.hid hR.symm
  have HSUB := Lib.hid hsub
  have hts := txt_size t
  have htl : t.length ≤ 1000000 := by omega
  have hd255 := d.toNat_lt
  have hcv := fun W => run_text_bytes W (txt t)
  have hige : Hid ((txt ig).toList.isEmpty = ig.isEmpty) := by show _ = _; rw [txt_toList]
  clear hR ht hsub ha
  go_enter Tryd.func40, Tryd.ntmps40
  go_wp2_with (go_at_call 59; refine cT.out.mono ?_; rintro e w1 ⟨rfl, hb1⟩)
  refine (bldN_new (B := w.heap.size) (b := w1.heap.size) (n := t.length + 2) hb1.size (heap_alloc_new w1 _) (by simp; have := hb1.size; omega) (by omega)).mono ?_
  rintro e w2 ⟨rfl, hnew, hb2⟩
  have hc2 : Below w.heap.size w w2 := (hb1.alloc hb1.size _).trans hb2
  go_wp2
  obtain ⟨x, fz, hrow, hx⟩ := bytesWorld_row w2 t
  have hb3 := bytesWorld_below (Below.refl w2.heap.size w2) (Nat.le_refl _) 5 (txt t)
  have hbl := hnew (bytesWorld w2 5 (txt t)) hb3 (by rw [bytesWorld_size]; omega)
  have hc3 : Below w.heap.size w (bytesWorld w2 5 (txt t)) := bytesWorld_below hc2 hc2.size _ _
  have HX := Lib.hid hx
  have hdi : DI w w1.heap.size w2.heap.size x fz [] (bytesWorld w2 5 (txt t)) := ⟨hbl, hrow, hc3⟩
  clear hx hnew hb3 hc2 hb2 hcv hc3 hrow hbl
  generalize bytesWorld w2 5 (txt t) = wb at *
  generalize grownCap w2 t.length 0 5 = cap at *
  have hw1 := hb1.size
  go_loopg [31] (t.length + 1) (fun gk i wr => ∃ (p rest o : List UInt8), Hid (t = p ++ rest) ∧ i = .int .i64 p.length ∧ rest.length < gk ∧ Hid (R = o ++ del d scr (igB ig) p.getLast? rest) ∧ DI w w1.heap.size w2.heap.size x fz o wr)
  case atStart => exact ⟨[], t, [], rfl, rfl, by omega, HR.out, hdi⟩
  case round =>
    clear hdi
    obtain ⟨p, rest, o, HT, rfl, hg, HO, hdi⟩ := hrel
    have hpl : p.length + rest.length = t.length := by have h := congrArg List.length HT.out; rw [List.length_append] at h; omega
    have hol : o.length ≤ 3000000 := by have h := congrArg List.length HO.out; rw [List.length_append] at h; omega
    cases rest with
    | nil =>
      rw [List.length_nil] at hpl
      go_wp2_with fail
      refine (bld_string w.heap.size w1.heap.size _ _ hdi.bld.bld hdi.bel.size).mono ?_
      rintro e w4 ⟨rfl, _, hb4, _⟩
      go_wp2
      go_ret
      have e := HO.out
      rw [del, List.append_nil] at e
      exact ⟨by rw [e]; rfl, hdi.bel.trans hb4⟩
    | cons b rest =>
      rw [List.length_cons] at hpl hg
      have hbk : t[p.length]? = some b := by rw [HT.out, List.getElem?_append_right (Nat.le_refl _), Nat.sub_self]; rfl
      have hcell := row_at hdi.row HX.out hbk
      have HT2 : Hid (t = (p ++ [b]) ++ rest) := by show _ = _; rw [HT.out]; simp
      have hb128 := HSUB.out b (by rw [HT.out]; simp)
      have HO2 : Hid (R = o ++ (delO d scr (igB ig) p.getLast? b rest.head? ++ del d scr (igB ig) (p ++ [b]).getLast? rest)) := by show _ = _; rw [HO.out, del, List.getLast?_concat]
      obtain ⟨v, hv⟩ : ∃ v, b.toNat = v := ⟨_, rfl⟩
      rw [hv] at hcell hb128
      have HV := Lib.hid hv
      obtain ⟨gk, rfl⟩ : ∃ m, gk = m + 1 := ⟨gk - 1, by omega⟩
      have hypos := (turn scr b).toNat_lt
      obtain ⟨y, hy⟩ : ∃ y, (turn scr b).toNat = y := ⟨_, rfl⟩
      rw [hy] at hypos
      have HTN := Lib.hid hy
      obtain ⟨C, hC⟩ : ∃ C, isCap b = C := ⟨_, rfl⟩
      obtain ⟨L, hL⟩ : ∃ L, isLow b = L := ⟨_, rfl⟩
      obtain ⟨N, hN⟩ : ∃ N, isNum b = N := ⟨_, rfl⟩
      have HC := Lib.hid hC
      have HL := Lib.hid hL
      have HN := Lib.hid hN
      have HCv : Hid (C = decide (65 ≤ v ∧ v ≤ 90)) := by show _ = _; rw [← hC, isCap, hv]
      have HLv : Hid (L = decide (97 ≤ v ∧ v ≤ 122)) := by show _ = _; rw [← hL, isLow, hv]
      have HNv : Hid (N = decide (48 ≤ v ∧ v ≤ 57)) := by show _ = _; rw [← hN, isNum, hv]
      have HYv : Hid (y = if L && scr then v - 32 else if C && !scr then v + 32 else v) := by
        show _ = _
        rw [← hy, turn, ← hL, ← hC, isLow, isCap, hv]
        cases scr
        · simp only [Bool.false_eq_true, if_false, Bool.and_false, Bool.not_false, Bool.and_true]
          rw [toLo_nat, hv]
          by_cases h : 65 ≤ v ∧ v ≤ 90
          · rw [if_pos h, decide_eq_true h, if_pos rfl]
          · rw [if_neg h, decide_eq_false h, if_neg (by decide)]
        · simp only [if_true, Bool.and_true, Bool.not_true, Bool.and_false, Bool.false_eq_true, if_false]
          rw [toUp_nat, hv]
          by_cases h : 97 ≤ v ∧ v ≤ 122
          · rw [if_pos h, decide_eq_true h, if_pos rfl]
          · rw [if_neg h, decide_eq_false h, if_neg (by decide)]
      clear hv hbk HO hy hC hL hN
      go_upto_region 7 with fail
      go_cut [12] (fun s W => s = .bool C ∧ DI w w1.heap.size w2.heap.size x fz o W)
      case first =>
        as_aux_lemma =>
          rcases (show v < 65 ∨ (65 ≤ v ∧ v ≤ 90) ∨ 90 < v by omega) with h | h | h
          all_goals
            go_wp2
            go_meet
            exact ⟨congrArg Value.bool (by rw [HCv.out]; first | exact (decide_eq_true (by omega)).symm | exact (decide_eq_false (by omega)).symm | exact decide_eq_decide.2 (by omega)), hdi⟩
      case rest =>
      as_aux_lemma =>
        clear hdi hcell
        obtain ⟨rfl, hdi⟩ := hcut
        go_upto_region 8 with fail
        go_cut [13] (fun s W => s = .bool L ∧ DI w w1.heap.size w2.heap.size x fz o W)
        case first =>
          as_aux_lemma =>
            rcases (show v < 97 ∨ (97 ≤ v ∧ v ≤ 122) ∨ 122 < v by omega) with h | h | h
            all_goals
              go_wp2
              go_meet
              exact ⟨congrArg Value.bool (by rw [HLv.out]; first | exact (decide_eq_true (by omega)).symm | exact (decide_eq_false (by omega)).symm | exact decide_eq_decide.2 (by omega)), hdi⟩
        case rest =>
        as_aux_lemma =>
        clear hdi
        obtain ⟨rfl, hdi⟩ := hcut
        go_upto_region 9 with fail
        go_cut [51] (fun s W => s = .bool (L && scr) ∧ DI w w1.heap.size w2.heap.size x fz o W)
        case first =>
          as_aux_lemma =>
            cases L
            all_goals
              go_wp2
              go_meet
              exact ⟨by simp, hdi⟩
        case rest =>
        as_aux_lemma =>
        clear hdi
        obtain ⟨rfl, hdi⟩ := hcut
        go_upto_if 51 with fail
        go_cut [11] (fun s W => s = .int .u8 (y : Int) ∧ DI w w1.heap.size w2.heap.size x fz o W)
        case first =>
          as_aux_lemma =>
            have hcv : C = true → 65 ≤ v ∧ v ≤ 90 := fun h => by have := HCv.out; rw [h] at this; exact of_decide_eq_true this.symm
            have hlv : L = true → 97 ≤ v ∧ v ≤ 122 := fun h => by have := HLv.out; rw [h] at this; exact of_decide_eq_true this.symm
            have HCC := Lib.hid hcv
            have HLL := Lib.hid hlv
            clear hcv hlv
            cases L
            · cases C
              · have hyv : y = v := by rw [HYv.out]; cases scr <;> rfl
                subst hyv
                cases scr <;> (go_wp2; go_meet; exact ⟨rfl, hdi⟩)
              · have h := HCC.out rfl
                cases scr
                · have hyv : y = v + 32 := by rw [HYv.out]; rfl
                  have HY := Lib.hid hyv
                  clear hyv
                  go_wp2
                  go_meet
                  exact ⟨by rw [HY.out]; exact congrArg (Value.int .u8) (by omega), hdi⟩
                · have hyv : y = v := by rw [HYv.out]; rfl
                  subst hyv
                  go_wp2
                  go_meet
                  exact ⟨rfl, hdi⟩
            · have h := HLL.out rfl
              have hCf : C = false := by rw [HCv.out]; exact decide_eq_false (by omega)
              subst hCf
              cases scr
              · have hyv : y = v := by rw [HYv.out]; rfl
                subst hyv
                go_wp2
                go_meet
                exact ⟨rfl, hdi⟩
              · have hyv : y = v - 32 := by rw [HYv.out]; rfl
                have HY := Lib.hid hyv
                clear hyv
                go_wp2
                go_meet
                exact ⟨by rw [HY.out]; exact congrArg (Value.int .u8) (by omega), hdi⟩
        case rest =>
        as_aux_lemma =>
        clear hdi
        obtain ⟨rfl, hdi⟩ := hcut
        go_upto_if 69 with fail
        have hCv := HCv.out
        have hLv := HLv.out
        have hNv := HNv.out
        have hYv := HYv.out
        have hCx : C = true → L = false ∧ N = false := fun h => by
          rw [h] at hCv
          have := of_decide_eq_true hCv.symm
          exact ⟨by rw [hLv]; exact decide_eq_false (by omega), by rw [hNv]; exact decide_eq_false (by omega)⟩
        have hLx : L = true → N = false := fun h => by
          rw [h] at hLv
          have := of_decide_eq_true hLv.symm
          rw [hNv]; exact decide_eq_false (by omega)
        have hNy : N = decide (48 ≤ y ∧ y ≤ 57) := by
          rw [hNv, hYv]
          apply decide_eq_decide.2
          cases L
          · cases C
            · simp
            · have := of_decide_eq_true hCv.symm
              cases scr <;> simp <;> omega
          · have := of_decide_eq_true hLv.symm
            have hCf : C = false := by rw [hCv]; exact decide_eq_false (by omega)
            rw [hCf]
            cases scr <;> simp <;> omega
        have HCX := Lib.hid hCx
        have HLX := Lib.hid hLx
        have HNy := Lib.hid hNy
        have hSy : isSep b = true → y = v ∧ (v = 32 ∨ v = 95 ∨ v = 45 ∨ v = 46) := fun h => by
          have h2 : v = 32 ∨ v = 95 ∨ v = 45 ∨ v = 46 := by unfold isSep at h; rw [HV.out] at h; exact of_decide_eq_true h
          refine ⟨?_, h2⟩
          have h3 : C = false := by rw [hCv]; exact decide_eq_false (by omega)
          have h4 : L = false := by rw [hLv]; exact decide_eq_false (by omega)
          rw [hYv, h3, h4]; simp
        have hSn : isSep b = false → ¬ (y = 32 ∨ y = 95 ∨ y = 45 ∨ y = 46) := fun h => by
          have h2 : ¬ (v = 32 ∨ v = 95 ∨ v = 45 ∨ v = 46) := by unfold isSep at h; rw [HV.out] at h; exact of_decide_eq_false h
          rw [hYv]
          cases L
          · cases C
            · simpa using h2
            · have := of_decide_eq_true hCv.symm
              cases scr <;> simp <;> omega
          · have := of_decide_eq_true hLv.symm
            have hCf : C = false := by rw [hCv]; exact decide_eq_false (by omega)
            rw [hCf]
            cases scr <;> simp <;> omega
        have HSy := Lib.hid hSy
        have HSn := Lib.hid hSn
        clear hCv hLv hNv hYv hCx hLx hNy hSy hSn
        go_cut [11] (fun s W => s = .int .u8 (y : Int) ∧ DI w w1.heap.size w2.heap.size x fz o W ∧ Hid (delO d scr (igB ig) p.getLast? b rest.head? = if isSep b && !igB ig b then [d] else [turn scr b]))
        case first =>
          as_aux_lemma =>
            have hprev : p = [] ∨ ∃ (y : UInt8), p.getLast? = some y ∧ 0 < p.length ∧ y.toNat < 128 ∧ ∀ W, (Instr.index 9 (.string (txt t)) (.int .i64 ((p.length : Int) - 1))).run Tryd.prog W = .ok (.int .u8 y.toNat) W := by
              rcases List.eq_nil_or_concat p with rfl | ⟨q, y, rfl⟩
              · exact .inl rfl
              · rw [List.concat_eq_append] at *
                refine .inr ⟨y, by simp, by simp, HSUB.out y (by rw [HT.out]; simp), ?_⟩
                have h := run_byte t q.length y (by rw [HT.out, List.getElem?_append_left (by simp), List.getElem?_append_right (Nat.le_refl _)]; simp)
                rw [show (((q ++ [y]).length : Nat) : Int) - 1 = (q.length : Int) by simp]
                exact h
            have HPREV := Lib.hid hprev
            clear hprev
            cases rest with
            | nil =>
              rw [List.length_nil] at hpl hg
              have hnd : Hid (delO d scr (igB ig) p.getLast? b ([] : List UInt8).head? = if isSep b && !igB ig b then [d] else [turn scr b]) := by show _ = _; simp [delO, bord, oCap, oLow, oNum]
              go_wp2
              go_meet
              exact ⟨rfl, hdi, hnd⟩
            | cons n q =>
              rw [List.length_cons] at hpl hg
              have hixn : ∀ W, (Instr.index 9 (.string (txt t)) (.int .i64 ((p.length : Int) + 1))).run Tryd.prog W = .ok (.int .u8 n.toNat) W := by
                have h := run_byte t (p.length + 1) n (by rw [HT2.out, List.getElem?_append_right (by simp)]; simp)
                rw [show (((p.length + 1 : Nat)) : Int) = (p.length : Int) + 1 by omega] at h
                exact h
              obtain ⟨nc, hnc⟩ : ∃ nc, isCap n = nc := ⟨_, rfl⟩
              obtain ⟨nl, hnl⟩ : ∃ nl, isLow n = nl := ⟨_, rfl⟩
              obtain ⟨nn, hnn⟩ : ∃ nn, isNum n = nn := ⟨_, rfl⟩
              obtain ⟨PC, hPC⟩ : ∃ PC, oCap p.getLast? = PC := ⟨_, rfl⟩
              obtain ⟨G, hG⟩ : ∃ G, (match p.getLast? with | none => false | some x => igB ig x) = G := ⟨_, rfl⟩
              obtain ⟨B, hB⟩ : ∃ B, bord b (some n) = B := ⟨_, rfl⟩
              have HBv : Hid (B = ((C && (nl || nn)) || (L && (nc || nn)) || (N && (nc || nl)))) := by show _ = _; rw [← hB, bord, HC.out, HL.out, HN.out, oCap, oLow, oNum, hnc, hnl, hnn]
              have HDEL : Hid (delO d scr (igB ig) p.getLast? b (n :: q).head? = if B && !G then (if C && nl && PC then [d] else []) ++ turn scr b :: (if L || N || nn then [d] else []) else if isSep b && !igB ig b then [d] else [turn scr b]) := by
                show _ = _
                rw [← hB, ← hG, ← HC.out, ← HL.out, ← HN.out, ← hnl, ← hnn, ← hPC]
                rfl
              obtain ⟨u, hu⟩ : ∃ u, n.toNat = u := ⟨_, rfl⟩
              rw [hu] at hixn
              have hncv : Hid (nc = decide (65 ≤ u ∧ u ≤ 90)) := by show _ = _; rw [← hnc, isCap, hu]
              have hnlv : Hid (nl = decide (97 ≤ u ∧ u ≤ 122)) := by show _ = _; rw [← hnl, isLow, hu]
              have hnnv : Hid (nn = decide (48 ≤ u ∧ u ≤ 57)) := by show _ = _; rw [← hnn, isNum, hu]
              have HG := Lib.hid hG
              have HPC := Lib.hid hPC
              clear hu hnc hnl hnn hPC hG hB
              go_upto_region 17 with fail
              go_cut [15] (fun s W => s = .bool N ∧ DI w w1.heap.size w2.heap.size x fz o W)
              case first =>
                as_aux_lemma =>
                  rcases (show y < 48 ∨ (48 ≤ y ∧ y ≤ 57) ∨ 57 < y by omega) with h | h | h
                  all_goals
                    go_wp2
                    go_meet
                    exact ⟨congrArg Value.bool (by rw [HNy.out]; first | exact (decide_eq_true (by omega)).symm | exact (decide_eq_false (by omega)).symm | exact decide_eq_decide.2 (by omega)), hdi⟩
              case rest =>
              as_aux_lemma =>
              clear hdi
              obtain ⟨rfl, hdi⟩ := hcut
              go_upto_region 18 with fail
              go_cut [16] (fun s W => s = .bool nc ∧ DI w w1.heap.size w2.heap.size x fz o W)
              case first =>
                as_aux_lemma =>
                  rcases (show u < 65 ∨ (65 ≤ u ∧ u ≤ 90) ∨ 90 < u by omega) with h | h | h
                  all_goals
                    go_wp2
                    go_meet
                    exact ⟨congrArg Value.bool (by rw [hncv.out]; first | exact (decide_eq_true (by omega)).symm | exact (decide_eq_false (by omega)).symm | exact decide_eq_decide.2 (by omega)), hdi⟩
              case rest =>
              as_aux_lemma =>
              clear hdi
              obtain ⟨rfl, hdi⟩ := hcut
              go_upto_region 19 with fail
              go_cut [17] (fun s W => s = .bool nl ∧ DI w w1.heap.size w2.heap.size x fz o W)
              case first =>
                as_aux_lemma =>
                  rcases (show u < 97 ∨ (97 ≤ u ∧ u ≤ 122) ∨ 122 < u by omega) with h | h | h
                  all_goals
                    go_wp2
                    go_meet
                    exact ⟨congrArg Value.bool (by rw [hnlv.out]; first | exact (decide_eq_true (by omega)).symm | exact (decide_eq_false (by omega)).symm | exact decide_eq_decide.2 (by omega)), hdi⟩
              case rest =>
              as_aux_lemma =>
              clear hdi
              obtain ⟨rfl, hdi⟩ := hcut
              go_upto_region 20 with fail
              go_cut [18] (fun s W => s = .bool nn ∧ DI w w1.heap.size w2.heap.size x fz o W)
              case first =>
                as_aux_lemma =>
                  rcases (show u < 48 ∨ (48 ≤ u ∧ u ≤ 57) ∨ 57 < u by omega) with h | h | h
                  all_goals
                    go_wp2
                    go_meet
                    exact ⟨congrArg Value.bool (by rw [hnnv.out]; first | exact (decide_eq_true (by omega)).symm | exact (decide_eq_false (by omega)).symm | exact decide_eq_decide.2 (by omega)), hdi⟩
              case rest =>
              as_aux_lemma =>
              clear hdi
              obtain ⟨rfl, hdi⟩ := hcut
              clear hixn hncv hnlv hnnv
              go_upto_region 21 with fail
              go_cut [122] (fun s W => s = .bool B ∧ DI w w1.heap.size w2.heap.size x fz o W)
              case first =>
                as_aux_lemma =>
                  cases C
                  · cases L
                    · cases N
                      · go_wp2
                        go_meet
                        exact ⟨by rw [HBv.out]; rfl, hdi⟩
                      · cases nc
                        · cases nl <;> (go_wp2; go_meet; exact ⟨by rw [HBv.out]; rfl, hdi⟩)
                        · go_wp2
                          go_meet
                          exact ⟨by rw [HBv.out]; rfl, hdi⟩
                    · have hNf := HLX.out rfl
                      subst hNf
                      cases nc
                      · cases nn <;> (go_wp2; go_meet; exact ⟨by rw [HBv.out]; simp, hdi⟩)
                      · go_wp2
                        go_meet
                        exact ⟨by rw [HBv.out]; simp, hdi⟩
                  · obtain ⟨hLf, hNf⟩ := HCX.out rfl
                    subst hLf
                    subst hNf
                    cases nl
                    · cases nn <;> (go_wp2; go_meet; exact ⟨by rw [HBv.out]; simp, hdi⟩)
                    · go_wp2
                      go_meet
                      exact ⟨by rw [HBv.out]; simp, hdi⟩
              case rest =>
              as_aux_lemma =>
              clear hdi
              obtain ⟨rfl, hdi⟩ := hcut
              go_upto_if 122 with fail
              cases B
              · go_wp2
                go_meet
                exact ⟨rfl, hdi, HDEL.out⟩
              · go_upto_region 22 with fail
                go_cut [19] (fun s W => s = .bool G ∧ DI w w1.heap.size w2.heap.size x fz o W)
                case first =>
                  as_aux_lemma =>
                    cases hie : ig.isEmpty
                    · have hie2 := hige.out
                      rw [hie] at hie2
                      rcases HPREV.out with hpe | ⟨z0, hyl, hp0, hy128, hixy⟩
                      · have hpz : p.length ≤ 0 := by rw [hpe]; exact Nat.le_refl _
                        have hGf : Hid (G = false) := by show _ = _; rw [← HG.out, hpe]; rfl
                        clear hpe
                        go_wp2
                        go_meet
                        exact ⟨by rw [hGf.out], hdi⟩
                      · have cY := Lib.hid fun W (h : DI w w1.heap.size w2.heap.size x fz o W) => (encode_byte z0 hy128).symm ▸ di_has z0 ig h hy128
                        have hGy : Hid (hasR ig z0.toNat = G) := by show _ = _; rw [← HG.out, hyl]; rfl
                        rw [hGy.out] at cY
                        clear hyl hie hGy
                        go_wp2_with (go_at_call 61; refine (cY.out _ hdi).mono ?_; rintro e w4 ⟨rfl, hdi4⟩)
                        go_meet
                        exact ⟨by simp, hdi4⟩
                    · have hie2 := hige.out
                      rw [hie] at hie2
                      have hGf : Hid (G = false) := by
                        show _ = _
                        rw [← HG.out, List.isEmpty_iff.1 hie]
                        cases p.getLast? <;> rfl
                      clear hie
                      go_wp2
                      go_meet
                      exact ⟨by rw [hGf.out], hdi⟩
                case rest =>
                as_aux_lemma =>
                clear hdi
                obtain ⟨rfl, hdi⟩ := hcut
                go_upto_if 139 with fail
                cases G
                · go_upto_region 24 with fail
                  go_cut [143] (fun s W => s = .bool (C && nl) ∧ DI w w1.heap.size w2.heap.size x fz o W)
                  case first =>
                    as_aux_lemma =>
                      cases C <;> (go_wp2; go_meet; exact ⟨by simp, hdi⟩)
                  case rest =>
                  as_aux_lemma =>
                  clear hdi
                  obtain ⟨rfl, hdi⟩ := hcut
                  go_upto_if 143 with fail
                  go_cut [11] (fun s W => s = .int .u8 (y : Int) ∧ DI w w1.heap.size w2.heap.size x fz (o ++ (if C && nl && PC then [d] else [])) W)
                  case first =>
                    as_aux_lemma =>
                      cases hK : (C && nl)
                      · go_wp2
                        go_meet
                        exact ⟨rfl, by rw [hK]; simpa using hdi⟩
                      · rcases HPREV.out with hpe | ⟨z0, hyl, hp0, hy128, hixy⟩
                        · have hpz : p.length ≤ 0 := by rw [hpe]; exact Nat.le_refl _
                          have hPf : Hid (PC = false) := by show _ = _; rw [← HPC.out, hpe]; rfl
                          clear hpe
                          go_wp2
                          go_meet
                          exact ⟨rfl, by rw [hK, hPf.out]; simpa using hdi⟩
                        · have hPv : Hid (PC = decide (65 ≤ z0.toNat ∧ z0.toNat ≤ 90)) := by show _ = _; rw [← HPC.out, hyl]; rfl
                          obtain ⟨z, hz⟩ : ∃ z, z0.toNat = z := ⟨_, rfl⟩
                          rw [hz] at hixy hy128 hPv
                          clear hz hyl
                          rcases (show (65 ≤ z ∧ z ≤ 90) ∨ z < 65 ∨ 90 < z by omega) with h | h | h
                          · have hPt : Hid (PC = true) := by show _ = _; rw [hPv.out]; exact decide_eq_true h
                            go_wp2_with (go_at_call 62; refine (di_byte hdi (by omega) (by omega) (by omega)).mono ?_; rintro e w4 ⟨rfl, hdi4⟩)
                            go_meet
                            rw [u8_of (x := d) rfl] at hdi4
                            exact ⟨rfl, by rw [hK, hPt.out]; simpa using hdi4⟩
                          · have hPf : Hid (PC = false) := by show _ = _; rw [hPv.out]; exact decide_eq_false (by omega)
                            go_wp2
                            go_meet
                            exact ⟨rfl, by rw [hK, hPf.out]; simpa using hdi⟩
                          · have hPf : Hid (PC = false) := by show _ = _; rw [hPv.out]; exact decide_eq_false (by omega)
                            go_wp2
                            go_meet
                            exact ⟨rfl, by rw [hK, hPf.out]; simpa using hdi⟩
                  case rest =>
                  as_aux_lemma =>
                  clear hdi
                  obtain ⟨rfl, hdi⟩ := hcut
                  obtain ⟨o2, ho2⟩ : ∃ o2, o ++ (if C && nl && PC then [d] else []) = o2 := ⟨_, rfl⟩
                  have ho2l : o2.length ≤ 3000001 := by rw [← ho2, List.length_append]; split <;> simp <;> omega
                  rw [ho2] at hdi
                  have HO3 := Lib.hid ho2
                  clear ho2
                  go_upto_region 29 with (go_at_call 62; refine (di_byte hdi (by omega) (by omega) (by omega)).mono ?_; rintro e w4 ⟨rfl, hdi4⟩)
                  rw [u8_of (x := turn scr b) (by rw [HTN.out])] at hdi4
                  clear hdi
                  go_cut [171] (fun s W => s = .bool (L || N || nn) ∧ DI w w1.heap.size w2.heap.size x fz (o2 ++ [turn scr b]) W)
                  case first =>
                    as_aux_lemma =>
                      cases L
                      · cases N <;> (go_wp2; go_meet; exact ⟨by simp, hdi4⟩)
                      · go_wp2
                        go_meet
                        exact ⟨by simp, hdi4⟩
                  case rest =>
                  as_aux_lemma =>
                  clear hdi4
                  obtain ⟨rfl, hdi⟩ := hcut
                  have hl3 : (o2 ++ [turn scr b]).length ≤ 3000002 := by rw [List.length_append]; simp; omega
                  go_upto_if 171 with fail
                  cases hE : (L || N || nn)
                  · go_wp2
                    go_roundg gk
                    case rel =>
                      refine ⟨p ++ [b], n :: q, _, HT2.out, by rw [List.length_append]; go_num, by rw [List.length_cons]; omega, ?_, hdi⟩
                      show _ = _
                      rw [HO2.out, HDEL.out, hE, ← HO3.out]
                      simp
                    case measure => omega
                  · go_wp2_with (go_at_call 62; refine (di_byte hdi (by omega) (by omega) (by omega)).mono ?_; rintro e w4 ⟨rfl, hdi4⟩)
                    rw [u8_of (x := d) rfl] at hdi4
                    go_roundg gk
                    case rel =>
                      refine ⟨p ++ [b], n :: q, _, HT2.out, by rw [List.length_append]; go_num, by rw [List.length_cons]; omega, ?_, hdi4⟩
                      show _ = _
                      rw [HO2.out, HDEL.out, hE, ← HO3.out]
                      simp
                    case measure => omega
                · go_wp2
                  go_meet
                  exact ⟨rfl, hdi, HDEL.out⟩
        case rest =>
        as_aux_lemma =>
        clear hdi
        obtain ⟨rfl, hdi, HND⟩ := hcut
        rw [HND.out] at HO2
        obtain ⟨S, hS0⟩ : ∃ S, (isSep b && !igB ig b) = S := ⟨_, rfl⟩
        rw [hS0] at HO2
        have HSV := Lib.hid hS0
        clear hS0 HND
        go_upto_region 31 with fail
        go_cut [194] (fun s W => s = .bool S ∧ DI w w1.heap.size w2.heap.size x fz o W)
        case first =>
          as_aux_lemma =>
            cases hsb : isSep b
            · have hn := HSn.out hsb
              have hSf : Hid (S = false) := by show _ = _; rw [← HSV.out, hsb]; rfl
              have n1 : ((y : Int) == 32) = false := by simp; omega
              have n2 : ((y : Int) == 95) = false := by simp; omega
              have n3 : ((y : Int) == 45) = false := by simp; omega
              have n4 : ((y : Int) == 46) = false := by simp; omega
              clear hn hsb
              go_wp2
              go_meet
              exact ⟨by rw [hSf.out], hdi⟩
            · obtain ⟨hyv, hv4⟩ := HSy.out hsb
              have cB := Lib.hid fun W (h : DI w w1.heap.size w2.heap.size x fz o W) => (encode_byte b (by rw [HV.out]; omega)).symm ▸ di_has b ig h (by rw [HV.out]; omega)
              have hSv : Hid (S = !hasR ig v) := by show _ = _; rw [← HSV.out, hsb, Bool.true_and, igB, HV.out]
              rw [HV.out, ← hyv] at cB
              rw [← hyv] at hSv hv4
              clear hsb hyv
              obtain ⟨Z, hZ⟩ : ∃ Z, hasR ig y = Z := ⟨_, rfl⟩
              rw [hZ] at cB hSv
              clear hZ
              rcases hv4 with rfl | rfl | rfl | rfl
              all_goals
                go_wp2_with (go_at_call 61; refine (cB.out _ hdi).mono ?_; rintro e w4 ⟨rfl, hdi4⟩)
                go_meet
                exact ⟨by rw [hSv.out], hdi4⟩
        case rest =>
        as_aux_lemma =>
        clear hdi
        obtain ⟨rfl, hdi⟩ := hcut
        go_upto_if 194 with fail
        cases S
        · go_wp2_with (go_at_call 62; refine (di_byte hdi (by omega) (by omega) (by omega)).mono ?_; rintro e w4 ⟨rfl, hdi4⟩)
          rw [u8_of (x := turn scr b) (by rw [HTN.out])] at hdi4
          go_roundg gk
          case rel =>
            refine ⟨p ++ [b], rest, _, HT2.out, by rw [List.length_append]; go_num, by omega, ?_, hdi4⟩
            show _ = _
            rw [HO2.out]
            simp
          case measure => omega
        · go_wp2_with (go_at_call 62; refine (di_byte hdi (by omega) (by omega) (by omega)).mono ?_; rintro e w4 ⟨rfl, hdi4⟩)
          rw [u8_of (x := d) rfl] at hdi4
          go_roundg gk
          case rel =>
            refine ⟨p ++ [b], rest, _, HT2.out, by rw [List.length_append]; go_num, by omega, ?_, hdi4⟩
            show _ = _
            rw [HO2.out]
            simp
          case measure => omega

end Go.Proofs.YthanbbflemkomaaDoor
