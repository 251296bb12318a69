/- The contract of strcase's ToCamel and ToLowerCamel, at every text. -/
import Derived.Test.YthanbbflemkomaaDoorCBld
namespace Go.Proofs.YthanbbflemkomaaDoor
open Go.RowKit U8
open Go.Lib hiding intOf

/-- The tables that TrimSpace reads lie as their initialisers lay them. -/
structure Spc (w : World) : Prop where
  sp : Lib.TabIs Tryd.prog w "strings.asciiSpace" .u8 Lib.asciiSpaceTab
  u8 : Utf8Tabs 3 4 w
  ws : Lib.WhiteTab 8 w
theorem Spc.below {w w' : World} (h : Spc w) (hb : Below w.heap.size w w') : Spc w' :=
  ⟨TabIs_below (P := Tryd.prog) (g := 2) (by kernel_rfl) h.sp hb, Utf8Tabs_below h.u8 hb, WhiteTab_below h.ws hb⟩
theorem trim_any (l : List UInt8) (w : World) (hl : l.length ≤ 1000000) (h : Spc w) :
    Calls Tryd.prog 59 #[.string (txt l)] w fun e w' => e = .returned (.string (txt (trimSpaceD l))) ∧ Below w.heap.size w w' := by
  have := Tryd.strings_TrimSpace_any (txt l) w (by rw [txt_size]; omega) h.sp h.u8 h.ws
  rw [txt_list] at this
  exact this

theorem row_at {W : World} {g k : Nat} {l : List UInt8} {b : UInt8} {fz : Nat × Nat} {x : Array Value} (hg : W.heap[g]? = some (.cells x 5 fz)) (hx : x.toList.take l.length = byteCells l) (hb : l[k]? = some b) :
    W.cell? ⟨g, k, none⟩ = some (.int .u8 b.toNat) := by
  have hk : k < l.length := (List.getElem?_eq_some_iff.1 hb).1
  rw [cell_of_heap hg]
  have h2 : (x.toList.take l.length)[k]? = some (.int .u8 b.toNat) := by rw [hx, byteCells_get, hb]; rfl
  rw [List.getElem?_take, if_pos hk] at h2
  simpa using h2
theorem bytesWorld_row (W : World) (l : List UInt8) : ∃ x fz, (bytesWorld W 5 (txt l)).heap[W.heap.size]? = some (.cells x 5 fz) ∧ x.toList.take l.length = byteCells l := by
  refine ⟨_, _, bytesWorld_at_new W 5 (txt l), ?_⟩
  apply List.ext_getElem?
  intro j
  by_cases hj : j < l.length
  · have h := bytesWorld_cells W (txt l) j (.int .u8 (l[j]).toNat) (by rw [txt_list, byteCells_get, List.getElem?_eq_getElem hj]; rfl)
    have hadd : (⟨W.heap.size, 0, none⟩ : Addr).add j = ⟨W.heap.size, j, none⟩ := by unfold Addr.add; split <;> simp_all
    rw [hadd, cell_of_heap (bytesWorld_at_new W 5 (txt l))] at h
    rw [List.getElem?_take, if_pos hj, byteCells_get, List.getElem?_eq_getElem hj]
    simpa using h
  · rw [List.getElem?_eq_none (by rw [List.length_take]; omega), byteCells_get, List.getElem?_eq_none (by omega)]; rfl

theorem camV_nat (cn e : Bool) (b : UInt8) (v : Nat) (hv : b.toNat = v) : (camV cn e b).toNat = if cn then (if 97 ≤ v ∧ v ≤ 122 then v - 32 else v) else if e then (if 65 ≤ v ∧ v ≤ 90 then v + 32 else v) else v := by
  subst hv
  unfold camV
  cases cn
  · cases e
    · rfl
    · exact toLo_nat b
  · exact toUp_nat b
theorem camV_i (cn e : Bool) (b : UInt8) (v : Nat) (z : Int) (hv : b.toNat = v) (k : z = ((if cn then (if 97 ≤ v ∧ v ≤ 122 then v - 32 else v) else if e then (if 65 ≤ v ∧ v ≤ 90 then v + 32 else v) else v : Nat) : Int)) : z = ((camV cn e b).toNat : Int) := by
  rw [camV_nat cn e b v hv]; exact k

/-- One byte more is written. -/
theorem cam_out (R o rest : List UInt8) (cn e : Bool) (b : UInt8) (c : Int) (h : R = o ++ cam cn e (b :: rest)) (ha : isAln b = true) (hc : c = ((camV cn e b).toNat : Int)) : R = (o ++ [c.toNat.toUInt8]) ++ cam (camN b) (isCap b) rest := by
  have e1 : c.toNat.toUInt8 = camV cn e b := by
    apply UInt8.toNat_inj.1
    have := (camV cn e b).toNat_lt
    rw [hc, Int.toNat_natCast, u8n (by omega)]
  rw [h, cam, camO, if_pos ha, e1, List.append_assoc]
theorem cam_not (R o rest : List UInt8) (cn e : Bool) (b : UInt8) (h : R = o ++ cam cn e (b :: rest)) (ha : isAln b = false) : R = o ++ cam (camN b) (isCap b) rest := by
  rw [h, cam, camO, ha]; rfl

set_option maxHeartbeats 6400000 in
set_option maxRecDepth 100000 in
theorem camel_any (l : List UInt8) (ic : Bool) (w : World) (hl : l.length ≤ 1000000) (hS : Spc w) :
    Calls Tryd.prog 64 #[.string (txt l), .bool ic] w fun e w' => e = .returned (.string (txt (cam ic true (trimSpaceD l)))) ∧ Below w.heap.size w w' := by
  have hlen := trim_len l
  have cT := Lib.hid (trim_any l w hl hS)
  obtain ⟨t, ht⟩ : ∃ t, trimSpaceD l = t := ⟨_, rfl⟩
  rw [ht] at hlen cT ⊢
  clear ht
  by_cases hne : t = []
  · subst hne
    have h0 : (txt ([] : List UInt8)).toList.isEmpty = true := by rw [txt_toList]; rfl
    go_enter Tryd.func64, Tryd.ntmps64
    go_wp2_with (go_at_call 59; refine cT.out.mono ?_; rintro e w1 ⟨rfl, hb1⟩)
    go_ret
    exact ⟨rfl, hb1⟩
  obtain ⟨R, hR⟩ : ∃ R, cam ic true t = R := ⟨_, rfl⟩
  have hRl := cam_len ic true t
  rw [hR] at hRl ⊢
  have HR := Lib.hid hR.symm
  have h0 : (txt t).toList.isEmpty = false := by rw [txt_toList]; cases t with
    | nil => exact absurd rfl hne
    | cons => rfl
  have hts := txt_size t
  have htl : t.length ≤ 1000000 := by omega
  have hcv := fun W => run_text_bytes W (txt t)
  clear hR hne
  go_enter Tryd.func64, Tryd.ntmps64
  go_wp2_with (go_at_call 59; refine cT.out.mono ?_; rintro e w1 ⟨rfl, hb1⟩)
  refine (bldN_new (B := w.heap.size) (b := w1.heap.size) (n := t.length) hb1.size (heap_alloc_new w1 _) (by simp; have := hb1.size; omega) (by omega)).mono ?_
  rintro e w2 ⟨rfl, hnew, hb2⟩
  have hc2 : Below w.heap.size w w2 := (hb1.alloc hb1.size _).trans hb2
  go_wp2
  obtain ⟨x, fz, hrow, hx⟩ := bytesWorld_row w2 t
  have hb3 := bytesWorld_below (Below.refl w2.heap.size w2) (Nat.le_refl _) 5 (txt t)
  have hbl := hnew (bytesWorld w2 5 (txt t)) hb3 (by rw [bytesWorld_size]; omega)
  have hc3 : Below w.heap.size w (bytesWorld w2 5 (txt t)) := bytesWorld_below hc2 hc2.size _ _
  have HX := Lib.hid hx
  clear hx hnew hb3 hc2 hb2 hcv
  generalize bytesWorld w2 5 (txt t) = wb at *
  generalize grownCap w2 t.length 0 5 = cap at *
  have hw1 := hb1.size
  go_loopg [26, 6, 7] (t.length + 1) (fun gk i cn pc wr => ∃ (p rest o : List UInt8) (c q : Bool), Hid (t = p ++ rest) ∧ i = .int .i64 p.length ∧ cn = .bool c ∧ pc = .bool q ∧ rest.length < gk ∧ Hid (R = o ++ cam c (p.isEmpty || q) rest) ∧ Hid (BldN w.heap.size w1.heap.size w2.heap.size o wr) ∧ Hid (wr.heap[w2.heap.size]? = some (.cells x 5 fz)) ∧ Below w.heap.size w wr)
  case atStart => exact ⟨[], t, [], ic, false, rfl, rfl, rfl, rfl, by omega, HR.out, hbl, hrow, hc3⟩
  case round =>
    obtain ⟨p, rest, o, c, q, HT, rfl, rfl, rfl, hg, HO, HB, HROW, hb⟩ := hrel
    have hbs := hb.size
    have hpl : p.length + rest.length = t.length := by have h := congrArg List.length HT.out; rw [List.length_append] at h; omega
    have hol : o.length ≤ 1000000 := by have h := congrArg List.length HO.out; rw [List.length_append] at h; omega
    cases rest with
    | nil =>
      rw [List.length_nil] at hpl
      go_wp2_with fail
      refine (bld_string w.heap.size w1.heap.size _ _ HB.out.bld hbs).mono ?_
      rintro e w4 ⟨rfl, _, hb4, _⟩
      go_wp2
      go_ret
      have e := HO.out
      rw [cam, List.append_nil] at e
      exact ⟨by rw [e]; rfl, hb.trans hb4⟩
    | cons b rest =>
      rw [List.length_cons] at hpl hg
      have hbk : t[p.length]? = some b := by rw [HT.out, List.getElem?_append_right (Nat.le_refl _), Nat.sub_self]; rfl
      have hcell := row_at HROW.out HX.out hbk
      have HT2 : Hid (t = (p ++ [b]) ++ rest) := by show _ = _; rw [HT.out]; simp
      have hb256 := b.toNat_lt
      obtain ⟨v, hv⟩ : ∃ v, b.toNat = v := ⟨_, rfl⟩
      rw [hv] at hcell hb256
      have HV := Lib.hid hv
      have hemp : Hid (∀ k : Bool, ((p ++ [b]).isEmpty || k) = k) := fun k => by simp
      obtain ⟨gk, rfl⟩ : ∃ m, gk = m + 1 := ⟨gk - 1, by omega⟩
      clear hv hbk
      by_cases hcap : 65 ≤ v ∧ v ≤ 90
      ·
        have hK : isCap b = true := by unfold isCap; rw [HV.out, decide_eq_true_eq]; omega
        have hN : camN b = false := by unfold camN isCap isLow isNum isSep; rw [HV.out]; simp <;> omega
        have hA : isAln b = true := by rw [isAln_nat, HV.out, decide_eq_true_eq]; omega
        cases c
        · by_cases hp : p = []
          · have hpz : ((p.length : Int) == 0) = true := by rw [hp]; rfl
            have HE : Hid ((p.isEmpty || q) = true) := by show _ = _; rw [hp]; rfl
            clear hp
            go_wp2_with (go_at_call 62; refine (bldN_byte w.heap.size w1.heap.size w2.heap.size o _ _ HB.out (by omega) (by omega) (by omega)).mono ?_; rintro e w4 ⟨rfl, hbl4, hb4, hg4⟩)
            go_roundg gk
            case rel =>
              refine ⟨p ++ [b], rest, _, camN b, isCap b, HT2.out, by rw [List.length_append]; go_num, by rw [hN], by rw [hK]; try (exact congrArg Value.bool (decide_eq_false (by omega))), by omega, ?_, hbl4, hg4.trans HROW.out, hb.trans hb4⟩
              show _ = _
              rw [hemp.out]
              exact cam_out _ _ _ _ _ b _ HO.out hA (camV_i _ _ b v _ HV.out (by rw [if_neg (by decide), HE.out, if_pos rfl]; try (first | omega | (rw [if_pos (by omega)]; omega) | (rw [if_neg (by omega)]))))
            case measure => omega
          · have hpz : ((p.length : Int) == 0) = false := by have := List.length_pos_iff.2 hp; simp; omega
            have HQ : Hid ((p.isEmpty || q) = q) := by show _ = _; cases p with
              | nil => exact absurd rfl hp
              | cons => rfl
            clear hp
            cases q
            · have HE := HQ
              go_wp2_with (go_at_call 62; refine (bldN_byte w.heap.size w1.heap.size w2.heap.size o _ _ HB.out (by omega) (by omega) (by omega)).mono ?_; rintro e w4 ⟨rfl, hbl4, hb4, hg4⟩)
              go_roundg gk
              case rel =>
                refine ⟨p ++ [b], rest, _, camN b, isCap b, HT2.out, by rw [List.length_append]; go_num, by rw [hN], by rw [hK]; try (exact congrArg Value.bool (decide_eq_false (by omega))), by omega, ?_, hbl4, hg4.trans HROW.out, hb.trans hb4⟩
                show _ = _
                rw [hemp.out]
                exact cam_out _ _ _ _ _ b _ HO.out hA (camV_i _ _ b v _ HV.out (by rw [if_neg (by decide), HE.out, if_neg (by decide)]; try (first | omega | (rw [if_pos (by omega)]; omega) | (rw [if_neg (by omega)]))))
              case measure => omega
            · have HE := HQ
              go_wp2_with (go_at_call 62; refine (bldN_byte w.heap.size w1.heap.size w2.heap.size o _ _ HB.out (by omega) (by omega) (by omega)).mono ?_; rintro e w4 ⟨rfl, hbl4, hb4, hg4⟩)
              go_roundg gk
              case rel =>
                refine ⟨p ++ [b], rest, _, camN b, isCap b, HT2.out, by rw [List.length_append]; go_num, by rw [hN], by rw [hK]; try (exact congrArg Value.bool (decide_eq_false (by omega))), by omega, ?_, hbl4, hg4.trans HROW.out, hb.trans hb4⟩
                show _ = _
                rw [hemp.out]
                exact cam_out _ _ _ _ _ b _ HO.out hA (camV_i _ _ b v _ HV.out (by rw [if_neg (by decide), HE.out, if_pos rfl]; try (first | omega | (rw [if_pos (by omega)]; omega) | (rw [if_neg (by omega)]))))
              case measure => omega
        ·
          go_wp2_with (go_at_call 62; refine (bldN_byte w.heap.size w1.heap.size w2.heap.size o _ _ HB.out (by omega) (by omega) (by omega)).mono ?_; rintro e w4 ⟨rfl, hbl4, hb4, hg4⟩)
          go_roundg gk
          case rel =>
            refine ⟨p ++ [b], rest, _, camN b, isCap b, HT2.out, by rw [List.length_append]; go_num, by rw [hN], by rw [hK]; try (exact congrArg Value.bool (decide_eq_false (by omega))), by omega, ?_, hbl4, hg4.trans HROW.out, hb.trans hb4⟩
            show _ = _
            rw [hemp.out]
            exact cam_out _ _ _ _ _ b _ HO.out hA (camV_i _ _ b v _ HV.out (by rw [if_pos rfl]; try (first | omega | (rw [if_pos (by omega)]; omega) | (rw [if_neg (by omega)]))))
          case measure => omega
      by_cases hlow : 97 ≤ v ∧ v ≤ 122
      ·
        have hK : isCap b = false := by unfold isCap; rw [HV.out, decide_eq_false_iff_not]; omega
        have hN : camN b = false := by unfold camN isCap isLow isNum isSep; rw [HV.out]; simp <;> omega
        have hA : isAln b = true := by rw [isAln_nat, HV.out, decide_eq_true_eq]; omega
        cases c
        · by_cases hp : p = []
          · have hpz : ((p.length : Int) == 0) = true := by rw [hp]; rfl
            have HE : Hid ((p.isEmpty || q) = true) := by show _ = _; rw [hp]; rfl
            clear hp
            go_wp2_with (go_at_call 62; refine (bldN_byte w.heap.size w1.heap.size w2.heap.size o _ _ HB.out (by omega) (by omega) (by omega)).mono ?_; rintro e w4 ⟨rfl, hbl4, hb4, hg4⟩)
            go_roundg gk
            case rel =>
              refine ⟨p ++ [b], rest, _, camN b, isCap b, HT2.out, by rw [List.length_append]; go_num, by rw [hN], by rw [hK]; try (exact congrArg Value.bool (decide_eq_false (by omega))), by omega, ?_, hbl4, hg4.trans HROW.out, hb.trans hb4⟩
              show _ = _
              rw [hemp.out]
              exact cam_out _ _ _ _ _ b _ HO.out hA (camV_i _ _ b v _ HV.out (by rw [if_neg (by decide), HE.out, if_pos rfl]; try (first | omega | (rw [if_pos (by omega)]; omega) | (rw [if_neg (by omega)]))))
            case measure => omega
          · have hpz : ((p.length : Int) == 0) = false := by have := List.length_pos_iff.2 hp; simp; omega
            have HQ : Hid ((p.isEmpty || q) = q) := by show _ = _; cases p with
              | nil => exact absurd rfl hp
              | cons => rfl
            clear hp
            cases q
            · have HE := HQ
              go_wp2_with (go_at_call 62; refine (bldN_byte w.heap.size w1.heap.size w2.heap.size o _ _ HB.out (by omega) (by omega) (by omega)).mono ?_; rintro e w4 ⟨rfl, hbl4, hb4, hg4⟩)
              go_roundg gk
              case rel =>
                refine ⟨p ++ [b], rest, _, camN b, isCap b, HT2.out, by rw [List.length_append]; go_num, by rw [hN], by rw [hK]; try (exact congrArg Value.bool (decide_eq_false (by omega))), by omega, ?_, hbl4, hg4.trans HROW.out, hb.trans hb4⟩
                show _ = _
                rw [hemp.out]
                exact cam_out _ _ _ _ _ b _ HO.out hA (camV_i _ _ b v _ HV.out (by rw [if_neg (by decide), HE.out, if_neg (by decide)]; try (first | omega | (rw [if_pos (by omega)]; omega) | (rw [if_neg (by omega)]))))
              case measure => omega
            · have HE := HQ
              go_wp2_with (go_at_call 62; refine (bldN_byte w.heap.size w1.heap.size w2.heap.size o _ _ HB.out (by omega) (by omega) (by omega)).mono ?_; rintro e w4 ⟨rfl, hbl4, hb4, hg4⟩)
              go_roundg gk
              case rel =>
                refine ⟨p ++ [b], rest, _, camN b, isCap b, HT2.out, by rw [List.length_append]; go_num, by rw [hN], by rw [hK]; try (exact congrArg Value.bool (decide_eq_false (by omega))), by omega, ?_, hbl4, hg4.trans HROW.out, hb.trans hb4⟩
                show _ = _
                rw [hemp.out]
                exact cam_out _ _ _ _ _ b _ HO.out hA (camV_i _ _ b v _ HV.out (by rw [if_neg (by decide), HE.out, if_pos rfl]; try (first | omega | (rw [if_pos (by omega)]; omega) | (rw [if_neg (by omega)]))))
              case measure => omega
        ·
          go_wp2_with (go_at_call 62; refine (bldN_byte w.heap.size w1.heap.size w2.heap.size o _ _ HB.out (by omega) (by omega) (by omega)).mono ?_; rintro e w4 ⟨rfl, hbl4, hb4, hg4⟩)
          go_roundg gk
          case rel =>
            refine ⟨p ++ [b], rest, _, camN b, isCap b, HT2.out, by rw [List.length_append]; go_num, by rw [hN], by rw [hK]; try (exact congrArg Value.bool (decide_eq_false (by omega))), by omega, ?_, hbl4, hg4.trans HROW.out, hb.trans hb4⟩
            show _ = _
            rw [hemp.out]
            exact cam_out _ _ _ _ _ b _ HO.out hA (camV_i _ _ b v _ HV.out (by rw [if_pos rfl]; try (first | omega | (rw [if_pos (by omega)]; omega) | (rw [if_neg (by omega)]))))
          case measure => omega
      by_cases hnum : 48 ≤ v ∧ v ≤ 57
      ·
        have hK : isCap b = false := by unfold isCap; rw [HV.out, decide_eq_false_iff_not]; omega
        have hN : camN b = true := by unfold camN isCap isLow isNum isSep; rw [HV.out]; simp <;> omega
        have hA : isAln b = true := by rw [isAln_nat, HV.out, decide_eq_true_eq]; omega
        cases c
        · by_cases hp : p = []
          · have hpz : ((p.length : Int) == 0) = true := by rw [hp]; rfl
            have HE : Hid ((p.isEmpty || q) = true) := by show _ = _; rw [hp]; rfl
            clear hp
            go_wp2_with (go_at_call 62; refine (bldN_byte w.heap.size w1.heap.size w2.heap.size o _ _ HB.out (by omega) (by omega) (by omega)).mono ?_; rintro e w4 ⟨rfl, hbl4, hb4, hg4⟩)
            go_roundg gk
            case rel =>
              refine ⟨p ++ [b], rest, _, camN b, isCap b, HT2.out, by rw [List.length_append]; go_num, by rw [hN], by rw [hK]; try (exact congrArg Value.bool (decide_eq_false (by omega))), by omega, ?_, hbl4, hg4.trans HROW.out, hb.trans hb4⟩
              show _ = _
              rw [hemp.out]
              exact cam_out _ _ _ _ _ b _ HO.out hA (camV_i _ _ b v _ HV.out (by rw [if_neg (by decide), HE.out, if_pos rfl]; try (first | omega | (rw [if_pos (by omega)]; omega) | (rw [if_neg (by omega)]))))
            case measure => omega
          · have hpz : ((p.length : Int) == 0) = false := by have := List.length_pos_iff.2 hp; simp; omega
            have HQ : Hid ((p.isEmpty || q) = q) := by show _ = _; cases p with
              | nil => exact absurd rfl hp
              | cons => rfl
            clear hp
            cases q
            · have HE := HQ
              go_wp2_with (go_at_call 62; refine (bldN_byte w.heap.size w1.heap.size w2.heap.size o _ _ HB.out (by omega) (by omega) (by omega)).mono ?_; rintro e w4 ⟨rfl, hbl4, hb4, hg4⟩)
              go_roundg gk
              case rel =>
                refine ⟨p ++ [b], rest, _, camN b, isCap b, HT2.out, by rw [List.length_append]; go_num, by rw [hN], by rw [hK]; try (exact congrArg Value.bool (decide_eq_false (by omega))), by omega, ?_, hbl4, hg4.trans HROW.out, hb.trans hb4⟩
                show _ = _
                rw [hemp.out]
                exact cam_out _ _ _ _ _ b _ HO.out hA (camV_i _ _ b v _ HV.out (by rw [if_neg (by decide), HE.out, if_neg (by decide)]; try (first | omega | (rw [if_pos (by omega)]; omega) | (rw [if_neg (by omega)]))))
              case measure => omega
            · have HE := HQ
              go_wp2_with (go_at_call 62; refine (bldN_byte w.heap.size w1.heap.size w2.heap.size o _ _ HB.out (by omega) (by omega) (by omega)).mono ?_; rintro e w4 ⟨rfl, hbl4, hb4, hg4⟩)
              go_roundg gk
              case rel =>
                refine ⟨p ++ [b], rest, _, camN b, isCap b, HT2.out, by rw [List.length_append]; go_num, by rw [hN], by rw [hK]; try (exact congrArg Value.bool (decide_eq_false (by omega))), by omega, ?_, hbl4, hg4.trans HROW.out, hb.trans hb4⟩
                show _ = _
                rw [hemp.out]
                exact cam_out _ _ _ _ _ b _ HO.out hA (camV_i _ _ b v _ HV.out (by rw [if_neg (by decide), HE.out, if_pos rfl]; try (first | omega | (rw [if_pos (by omega)]; omega) | (rw [if_neg (by omega)]))))
              case measure => omega
        ·
          go_wp2_with (go_at_call 62; refine (bldN_byte w.heap.size w1.heap.size w2.heap.size o _ _ HB.out (by omega) (by omega) (by omega)).mono ?_; rintro e w4 ⟨rfl, hbl4, hb4, hg4⟩)
          go_roundg gk
          case rel =>
            refine ⟨p ++ [b], rest, _, camN b, isCap b, HT2.out, by rw [List.length_append]; go_num, by rw [hN], by rw [hK]; try (exact congrArg Value.bool (decide_eq_false (by omega))), by omega, ?_, hbl4, hg4.trans HROW.out, hb.trans hb4⟩
            show _ = _
            rw [hemp.out]
            exact cam_out _ _ _ _ _ b _ HO.out hA (camV_i _ _ b v _ HV.out (by rw [if_pos rfl]; try (first | omega | (rw [if_pos (by omega)]; omega) | (rw [if_neg (by omega)]))))
          case measure => omega
      by_cases h32 : v = 32
      ·
        subst h32
        have hK : isCap b = false := by unfold isCap; rw [HV.out, decide_eq_false_iff_not]; omega
        have hN : camN b = true := by unfold camN isCap isLow isNum isSep; rw [HV.out]; simp <;> omega
        have hA : isAln b = false := by rw [isAln_nat, HV.out, decide_eq_false_iff_not]; omega
        cases c
        · by_cases hp : p = []
          · have hpz : ((p.length : Int) == 0) = true := by rw [hp]; rfl
            have HE : Hid ((p.isEmpty || q) = true) := by show _ = _; rw [hp]; rfl
            clear hp
            go_wp2
            go_roundg gk
            case rel =>
              refine ⟨p ++ [b], rest, o, camN b, isCap b, HT2.out, by rw [List.length_append]; go_num, by rw [hN], by rw [hK]; try (exact congrArg Value.bool (decide_eq_false (by omega))), by omega, ?_, HB, HROW, hb⟩
              show _ = _
              rw [hemp.out]
              exact cam_not _ _ _ _ _ b HO.out hA
            case measure => omega
          · have hpz : ((p.length : Int) == 0) = false := by have := List.length_pos_iff.2 hp; simp; omega
            have HQ : Hid ((p.isEmpty || q) = q) := by show _ = _; cases p with
              | nil => exact absurd rfl hp
              | cons => rfl
            clear hp
            cases q
            · have HE := HQ
              go_wp2
              go_roundg gk
              case rel =>
                refine ⟨p ++ [b], rest, o, camN b, isCap b, HT2.out, by rw [List.length_append]; go_num, by rw [hN], by rw [hK]; try (exact congrArg Value.bool (decide_eq_false (by omega))), by omega, ?_, HB, HROW, hb⟩
                show _ = _
                rw [hemp.out]
                exact cam_not _ _ _ _ _ b HO.out hA
              case measure => omega
            · have HE := HQ
              go_wp2
              go_roundg gk
              case rel =>
                refine ⟨p ++ [b], rest, o, camN b, isCap b, HT2.out, by rw [List.length_append]; go_num, by rw [hN], by rw [hK]; try (exact congrArg Value.bool (decide_eq_false (by omega))), by omega, ?_, HB, HROW, hb⟩
                show _ = _
                rw [hemp.out]
                exact cam_not _ _ _ _ _ b HO.out hA
              case measure => omega
        ·
          go_wp2
          go_roundg gk
          case rel =>
            refine ⟨p ++ [b], rest, o, camN b, isCap b, HT2.out, by rw [List.length_append]; go_num, by rw [hN], by rw [hK]; try (exact congrArg Value.bool (decide_eq_false (by omega))), by omega, ?_, HB, HROW, hb⟩
            show _ = _
            rw [hemp.out]
            exact cam_not _ _ _ _ _ b HO.out hA
          case measure => omega
      by_cases h95 : v = 95
      ·
        subst h95
        have hK : isCap b = false := by unfold isCap; rw [HV.out, decide_eq_false_iff_not]; omega
        have hN : camN b = true := by unfold camN isCap isLow isNum isSep; rw [HV.out]; simp <;> omega
        have hA : isAln b = false := by rw [isAln_nat, HV.out, decide_eq_false_iff_not]; omega
        cases c
        · by_cases hp : p = []
          · have hpz : ((p.length : Int) == 0) = true := by rw [hp]; rfl
            have HE : Hid ((p.isEmpty || q) = true) := by show _ = _; rw [hp]; rfl
            clear hp
            go_wp2
            go_roundg gk
            case rel =>
              refine ⟨p ++ [b], rest, o, camN b, isCap b, HT2.out, by rw [List.length_append]; go_num, by rw [hN], by rw [hK]; try (exact congrArg Value.bool (decide_eq_false (by omega))), by omega, ?_, HB, HROW, hb⟩
              show _ = _
              rw [hemp.out]
              exact cam_not _ _ _ _ _ b HO.out hA
            case measure => omega
          · have hpz : ((p.length : Int) == 0) = false := by have := List.length_pos_iff.2 hp; simp; omega
            have HQ : Hid ((p.isEmpty || q) = q) := by show _ = _; cases p with
              | nil => exact absurd rfl hp
              | cons => rfl
            clear hp
            cases q
            · have HE := HQ
              go_wp2
              go_roundg gk
              case rel =>
                refine ⟨p ++ [b], rest, o, camN b, isCap b, HT2.out, by rw [List.length_append]; go_num, by rw [hN], by rw [hK]; try (exact congrArg Value.bool (decide_eq_false (by omega))), by omega, ?_, HB, HROW, hb⟩
                show _ = _
                rw [hemp.out]
                exact cam_not _ _ _ _ _ b HO.out hA
              case measure => omega
            · have HE := HQ
              go_wp2
              go_roundg gk
              case rel =>
                refine ⟨p ++ [b], rest, o, camN b, isCap b, HT2.out, by rw [List.length_append]; go_num, by rw [hN], by rw [hK]; try (exact congrArg Value.bool (decide_eq_false (by omega))), by omega, ?_, HB, HROW, hb⟩
                show _ = _
                rw [hemp.out]
                exact cam_not _ _ _ _ _ b HO.out hA
              case measure => omega
        ·
          go_wp2
          go_roundg gk
          case rel =>
            refine ⟨p ++ [b], rest, o, camN b, isCap b, HT2.out, by rw [List.length_append]; go_num, by rw [hN], by rw [hK]; try (exact congrArg Value.bool (decide_eq_false (by omega))), by omega, ?_, HB, HROW, hb⟩
            show _ = _
            rw [hemp.out]
            exact cam_not _ _ _ _ _ b HO.out hA
          case measure => omega
      by_cases h45 : v = 45
      ·
        subst h45
        have hK : isCap b = false := by unfold isCap; rw [HV.out, decide_eq_false_iff_not]; omega
        have hN : camN b = true := by unfold camN isCap isLow isNum isSep; rw [HV.out]; simp <;> omega
        have hA : isAln b = false := by rw [isAln_nat, HV.out, decide_eq_false_iff_not]; omega
        cases c
        · by_cases hp : p = []
          · have hpz : ((p.length : Int) == 0) = true := by rw [hp]; rfl
            have HE : Hid ((p.isEmpty || q) = true) := by show _ = _; rw [hp]; rfl
            clear hp
            go_wp2
            go_roundg gk
            case rel =>
              refine ⟨p ++ [b], rest, o, camN b, isCap b, HT2.out, by rw [List.length_append]; go_num, by rw [hN], by rw [hK]; try (exact congrArg Value.bool (decide_eq_false (by omega))), by omega, ?_, HB, HROW, hb⟩
              show _ = _
              rw [hemp.out]
              exact cam_not _ _ _ _ _ b HO.out hA
            case measure => omega
          · have hpz : ((p.length : Int) == 0) = false := by have := List.length_pos_iff.2 hp; simp; omega
            have HQ : Hid ((p.isEmpty || q) = q) := by show _ = _; cases p with
              | nil => exact absurd rfl hp
              | cons => rfl
            clear hp
            cases q
            · have HE := HQ
              go_wp2
              go_roundg gk
              case rel =>
                refine ⟨p ++ [b], rest, o, camN b, isCap b, HT2.out, by rw [List.length_append]; go_num, by rw [hN], by rw [hK]; try (exact congrArg Value.bool (decide_eq_false (by omega))), by omega, ?_, HB, HROW, hb⟩
                show _ = _
                rw [hemp.out]
                exact cam_not _ _ _ _ _ b HO.out hA
              case measure => omega
            · have HE := HQ
              go_wp2
              go_roundg gk
              case rel =>
                refine ⟨p ++ [b], rest, o, camN b, isCap b, HT2.out, by rw [List.length_append]; go_num, by rw [hN], by rw [hK]; try (exact congrArg Value.bool (decide_eq_false (by omega))), by omega, ?_, HB, HROW, hb⟩
                show _ = _
                rw [hemp.out]
                exact cam_not _ _ _ _ _ b HO.out hA
              case measure => omega
        ·
          go_wp2
          go_roundg gk
          case rel =>
            refine ⟨p ++ [b], rest, o, camN b, isCap b, HT2.out, by rw [List.length_append]; go_num, by rw [hN], by rw [hK]; try (exact congrArg Value.bool (decide_eq_false (by omega))), by omega, ?_, HB, HROW, hb⟩
            show _ = _
            rw [hemp.out]
            exact cam_not _ _ _ _ _ b HO.out hA
          case measure => omega
      by_cases h46 : v = 46
      ·
        subst h46
        have hK : isCap b = false := by unfold isCap; rw [HV.out, decide_eq_false_iff_not]; omega
        have hN : camN b = true := by unfold camN isCap isLow isNum isSep; rw [HV.out]; simp <;> omega
        have hA : isAln b = false := by rw [isAln_nat, HV.out, decide_eq_false_iff_not]; omega
        cases c
        · by_cases hp : p = []
          · have hpz : ((p.length : Int) == 0) = true := by rw [hp]; rfl
            have HE : Hid ((p.isEmpty || q) = true) := by show _ = _; rw [hp]; rfl
            clear hp
            go_wp2
            go_roundg gk
            case rel =>
              refine ⟨p ++ [b], rest, o, camN b, isCap b, HT2.out, by rw [List.length_append]; go_num, by rw [hN], by rw [hK]; try (exact congrArg Value.bool (decide_eq_false (by omega))), by omega, ?_, HB, HROW, hb⟩
              show _ = _
              rw [hemp.out]
              exact cam_not _ _ _ _ _ b HO.out hA
            case measure => omega
          · have hpz : ((p.length : Int) == 0) = false := by have := List.length_pos_iff.2 hp; simp; omega
            have HQ : Hid ((p.isEmpty || q) = q) := by show _ = _; cases p with
              | nil => exact absurd rfl hp
              | cons => rfl
            clear hp
            cases q
            · have HE := HQ
              go_wp2
              go_roundg gk
              case rel =>
                refine ⟨p ++ [b], rest, o, camN b, isCap b, HT2.out, by rw [List.length_append]; go_num, by rw [hN], by rw [hK]; try (exact congrArg Value.bool (decide_eq_false (by omega))), by omega, ?_, HB, HROW, hb⟩
                show _ = _
                rw [hemp.out]
                exact cam_not _ _ _ _ _ b HO.out hA
              case measure => omega
            · have HE := HQ
              go_wp2
              go_roundg gk
              case rel =>
                refine ⟨p ++ [b], rest, o, camN b, isCap b, HT2.out, by rw [List.length_append]; go_num, by rw [hN], by rw [hK]; try (exact congrArg Value.bool (decide_eq_false (by omega))), by omega, ?_, HB, HROW, hb⟩
                show _ = _
                rw [hemp.out]
                exact cam_not _ _ _ _ _ b HO.out hA
              case measure => omega
        ·
          go_wp2
          go_roundg gk
          case rel =>
            refine ⟨p ++ [b], rest, o, camN b, isCap b, HT2.out, by rw [List.length_append]; go_num, by rw [hN], by rw [hK]; try (exact congrArg Value.bool (decide_eq_false (by omega))), by omega, ?_, HB, HROW, hb⟩
            show _ = _
            rw [hemp.out]
            exact cam_not _ _ _ _ _ b HO.out hA
          case measure => omega
      have n32 : ((v : Int) == 32) = false := by simp; omega
      have n95 : ((v : Int) == 95) = false := by simp; omega
      have n45 : ((v : Int) == 45) = false := by simp; omega
      have n46 : ((v : Int) == 46) = false := by simp; omega
      by_cases o1 : v < 48
      ·
        have hK : isCap b = false := by unfold isCap; rw [HV.out, decide_eq_false_iff_not]; omega
        have hN : camN b = false := by unfold camN isCap isLow isNum isSep; rw [HV.out]; simp <;> omega
        have hA : isAln b = false := by rw [isAln_nat, HV.out, decide_eq_false_iff_not]; omega
        cases c
        · by_cases hp : p = []
          · have hpz : ((p.length : Int) == 0) = true := by rw [hp]; rfl
            have HE : Hid ((p.isEmpty || q) = true) := by show _ = _; rw [hp]; rfl
            clear hp
            go_wp2
            go_roundg gk
            case rel =>
              refine ⟨p ++ [b], rest, o, camN b, isCap b, HT2.out, by rw [List.length_append]; go_num, by rw [hN], by rw [hK]; try (exact congrArg Value.bool (decide_eq_false (by omega))), by omega, ?_, HB, HROW, hb⟩
              show _ = _
              rw [hemp.out]
              exact cam_not _ _ _ _ _ b HO.out hA
            case measure => omega
          · have hpz : ((p.length : Int) == 0) = false := by have := List.length_pos_iff.2 hp; simp; omega
            have HQ : Hid ((p.isEmpty || q) = q) := by show _ = _; cases p with
              | nil => exact absurd rfl hp
              | cons => rfl
            clear hp
            cases q
            · have HE := HQ
              go_wp2
              go_roundg gk
              case rel =>
                refine ⟨p ++ [b], rest, o, camN b, isCap b, HT2.out, by rw [List.length_append]; go_num, by rw [hN], by rw [hK]; try (exact congrArg Value.bool (decide_eq_false (by omega))), by omega, ?_, HB, HROW, hb⟩
                show _ = _
                rw [hemp.out]
                exact cam_not _ _ _ _ _ b HO.out hA
              case measure => omega
            · have HE := HQ
              go_wp2
              go_roundg gk
              case rel =>
                refine ⟨p ++ [b], rest, o, camN b, isCap b, HT2.out, by rw [List.length_append]; go_num, by rw [hN], by rw [hK]; try (exact congrArg Value.bool (decide_eq_false (by omega))), by omega, ?_, HB, HROW, hb⟩
                show _ = _
                rw [hemp.out]
                exact cam_not _ _ _ _ _ b HO.out hA
              case measure => omega
        ·
          go_wp2
          go_roundg gk
          case rel =>
            refine ⟨p ++ [b], rest, o, camN b, isCap b, HT2.out, by rw [List.length_append]; go_num, by rw [hN], by rw [hK]; try (exact congrArg Value.bool (decide_eq_false (by omega))), by omega, ?_, HB, HROW, hb⟩
            show _ = _
            rw [hemp.out]
            exact cam_not _ _ _ _ _ b HO.out hA
          case measure => omega
      by_cases o2 : v < 65
      ·
        have o1' : 57 < v := by omega
        have hK : isCap b = false := by unfold isCap; rw [HV.out, decide_eq_false_iff_not]; omega
        have hN : camN b = false := by unfold camN isCap isLow isNum isSep; rw [HV.out]; simp <;> omega
        have hA : isAln b = false := by rw [isAln_nat, HV.out, decide_eq_false_iff_not]; omega
        cases c
        · by_cases hp : p = []
          · have hpz : ((p.length : Int) == 0) = true := by rw [hp]; rfl
            have HE : Hid ((p.isEmpty || q) = true) := by show _ = _; rw [hp]; rfl
            clear hp
            go_wp2
            go_roundg gk
            case rel =>
              refine ⟨p ++ [b], rest, o, camN b, isCap b, HT2.out, by rw [List.length_append]; go_num, by rw [hN], by rw [hK]; try (exact congrArg Value.bool (decide_eq_false (by omega))), by omega, ?_, HB, HROW, hb⟩
              show _ = _
              rw [hemp.out]
              exact cam_not _ _ _ _ _ b HO.out hA
            case measure => omega
          · have hpz : ((p.length : Int) == 0) = false := by have := List.length_pos_iff.2 hp; simp; omega
            have HQ : Hid ((p.isEmpty || q) = q) := by show _ = _; cases p with
              | nil => exact absurd rfl hp
              | cons => rfl
            clear hp
            cases q
            · have HE := HQ
              go_wp2
              go_roundg gk
              case rel =>
                refine ⟨p ++ [b], rest, o, camN b, isCap b, HT2.out, by rw [List.length_append]; go_num, by rw [hN], by rw [hK]; try (exact congrArg Value.bool (decide_eq_false (by omega))), by omega, ?_, HB, HROW, hb⟩
                show _ = _
                rw [hemp.out]
                exact cam_not _ _ _ _ _ b HO.out hA
              case measure => omega
            · have HE := HQ
              go_wp2
              go_roundg gk
              case rel =>
                refine ⟨p ++ [b], rest, o, camN b, isCap b, HT2.out, by rw [List.length_append]; go_num, by rw [hN], by rw [hK]; try (exact congrArg Value.bool (decide_eq_false (by omega))), by omega, ?_, HB, HROW, hb⟩
                show _ = _
                rw [hemp.out]
                exact cam_not _ _ _ _ _ b HO.out hA
              case measure => omega
        ·
          go_wp2
          go_roundg gk
          case rel =>
            refine ⟨p ++ [b], rest, o, camN b, isCap b, HT2.out, by rw [List.length_append]; go_num, by rw [hN], by rw [hK]; try (exact congrArg Value.bool (decide_eq_false (by omega))), by omega, ?_, HB, HROW, hb⟩
            show _ = _
            rw [hemp.out]
            exact cam_not _ _ _ _ _ b HO.out hA
          case measure => omega
      by_cases o3 : v < 97
      ·
        have o2' : 90 < v := by omega
        have hK : isCap b = false := by unfold isCap; rw [HV.out, decide_eq_false_iff_not]; omega
        have hN : camN b = false := by unfold camN isCap isLow isNum isSep; rw [HV.out]; simp <;> omega
        have hA : isAln b = false := by rw [isAln_nat, HV.out, decide_eq_false_iff_not]; omega
        cases c
        · by_cases hp : p = []
          · have hpz : ((p.length : Int) == 0) = true := by rw [hp]; rfl
            have HE : Hid ((p.isEmpty || q) = true) := by show _ = _; rw [hp]; rfl
            clear hp
            go_wp2
            go_roundg gk
            case rel =>
              refine ⟨p ++ [b], rest, o, camN b, isCap b, HT2.out, by rw [List.length_append]; go_num, by rw [hN], by rw [hK]; try (exact congrArg Value.bool (decide_eq_false (by omega))), by omega, ?_, HB, HROW, hb⟩
              show _ = _
              rw [hemp.out]
              exact cam_not _ _ _ _ _ b HO.out hA
            case measure => omega
          · have hpz : ((p.length : Int) == 0) = false := by have := List.length_pos_iff.2 hp; simp; omega
            have HQ : Hid ((p.isEmpty || q) = q) := by show _ = _; cases p with
              | nil => exact absurd rfl hp
              | cons => rfl
            clear hp
            cases q
            · have HE := HQ
              go_wp2
              go_roundg gk
              case rel =>
                refine ⟨p ++ [b], rest, o, camN b, isCap b, HT2.out, by rw [List.length_append]; go_num, by rw [hN], by rw [hK]; try (exact congrArg Value.bool (decide_eq_false (by omega))), by omega, ?_, HB, HROW, hb⟩
                show _ = _
                rw [hemp.out]
                exact cam_not _ _ _ _ _ b HO.out hA
              case measure => omega
            · have HE := HQ
              go_wp2
              go_roundg gk
              case rel =>
                refine ⟨p ++ [b], rest, o, camN b, isCap b, HT2.out, by rw [List.length_append]; go_num, by rw [hN], by rw [hK]; try (exact congrArg Value.bool (decide_eq_false (by omega))), by omega, ?_, HB, HROW, hb⟩
                show _ = _
                rw [hemp.out]
                exact cam_not _ _ _ _ _ b HO.out hA
              case measure => omega
        ·
          go_wp2
          go_roundg gk
          case rel =>
            refine ⟨p ++ [b], rest, o, camN b, isCap b, HT2.out, by rw [List.length_append]; go_num, by rw [hN], by rw [hK]; try (exact congrArg Value.bool (decide_eq_false (by omega))), by omega, ?_, HB, HROW, hb⟩
            show _ = _
            rw [hemp.out]
            exact cam_not _ _ _ _ _ b HO.out hA
          case measure => omega
      ·
        have o4 : 122 < v := by omega
        have hK : isCap b = false := by unfold isCap; rw [HV.out, decide_eq_false_iff_not]; omega
        have hN : camN b = false := by unfold camN isCap isLow isNum isSep; rw [HV.out]; simp <;> omega
        have hA : isAln b = false := by rw [isAln_nat, HV.out, decide_eq_false_iff_not]; omega
        cases c
        · by_cases hp : p = []
          · have hpz : ((p.length : Int) == 0) = true := by rw [hp]; rfl
            have HE : Hid ((p.isEmpty || q) = true) := by show _ = _; rw [hp]; rfl
            clear hp
            go_wp2
            go_roundg gk
            case rel =>
              refine ⟨p ++ [b], rest, o, camN b, isCap b, HT2.out, by rw [List.length_append]; go_num, by rw [hN], by rw [hK]; try (exact congrArg Value.bool (decide_eq_false (by omega))), by omega, ?_, HB, HROW, hb⟩
              show _ = _
              rw [hemp.out]
              exact cam_not _ _ _ _ _ b HO.out hA
            case measure => omega
          · have hpz : ((p.length : Int) == 0) = false := by have := List.length_pos_iff.2 hp; simp; omega
            have HQ : Hid ((p.isEmpty || q) = q) := by show _ = _; cases p with
              | nil => exact absurd rfl hp
              | cons => rfl
            clear hp
            cases q
            · have HE := HQ
              go_wp2
              go_roundg gk
              case rel =>
                refine ⟨p ++ [b], rest, o, camN b, isCap b, HT2.out, by rw [List.length_append]; go_num, by rw [hN], by rw [hK]; try (exact congrArg Value.bool (decide_eq_false (by omega))), by omega, ?_, HB, HROW, hb⟩
                show _ = _
                rw [hemp.out]
                exact cam_not _ _ _ _ _ b HO.out hA
              case measure => omega
            · have HE := HQ
              go_wp2
              go_roundg gk
              case rel =>
                refine ⟨p ++ [b], rest, o, camN b, isCap b, HT2.out, by rw [List.length_append]; go_num, by rw [hN], by rw [hK]; try (exact congrArg Value.bool (decide_eq_false (by omega))), by omega, ?_, HB, HROW, hb⟩
                show _ = _
                rw [hemp.out]
                exact cam_not _ _ _ _ _ b HO.out hA
              case measure => omega
        ·
          go_wp2
          go_roundg gk
          case rel =>
            refine ⟨p ++ [b], rest, o, camN b, isCap b, HT2.out, by rw [List.length_append]; go_num, by rw [hN], by rw [hK]; try (exact congrArg Value.bool (decide_eq_false (by omega))), by omega, ?_, HB, HROW, hb⟩
            show _ = _
            rw [hemp.out]
            exact cam_not _ _ _ _ _ b HO.out hA
          case measure => omega

end Go.Proofs.YthanbbflemkomaaDoor
