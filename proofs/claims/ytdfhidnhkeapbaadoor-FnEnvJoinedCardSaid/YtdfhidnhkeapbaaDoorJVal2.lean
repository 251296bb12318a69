/- godotenv.extractVarValue at texts without dollar signs, quotes and returns. Conditions: such texts; their length. -/
import Derived.Test.YtdfhidnhkeapbaaDoorJVal
namespace Go.Proofs.YtdfhidnhkeapbaaDoor
open Go.RowKit U8
open Go.Lib hiding intOf

def natL (l : List UInt8) : List Nat := l.map (·.toNat)
theorem enc_natL : ∀ l : List UInt8, (∀ x ∈ l, x.toNat < 128) → enc (natL l) = l
  | [], _ => rfl
  | c :: l, h => by
    show enc (c.toNat :: natL l) = _
    rw [enc_cons, enc_natL l fun x hx => h x (List.mem_cons_of_mem _ hx), enc1_a (h c (List.mem_cons_self ..))]
    simp
theorem scs_natL {l : List UInt8} (h : ∀ x ∈ l, x.toNat < 128) : Scs (natL l) := fun r hr => by
  obtain ⟨c, hc, rfl⟩ := List.mem_map.1 hr
  exact .inl (by have := h c hc; show c.toNat < 55296; omega)
theorem rslice0 (W : World) (ao : Option Addr) (n cap i : Nat) (hi : i ≤ n) (hc : n ≤ cap) :
    (Instr.slice 79 (.slice ao n cap) (some (.int .i64 0)) (some (.int .i64 i)) none).run Tryd.prog W = .ok (.slice ao i cap) W := by
  rw [run_slice_lh W 79 ao n cap (by kernel_rfl) .i64 .i64 0 i (by omega) (by omega) (by omega)]
  have : (sizeOf (Tryd.prog.elem 79)).run Tryd.prog W = .ok 1 W := by kernel_rfl
  rw [this]
  simp only [Result.andThen, sliced]
  cases ao with
  | none => simp
  | some a => simp [Addr.add_zero']
theorem cutI_len (l : List UInt8) : cutI l 0 = l.length := rfl
theorem cutI_le (l : List UInt8) : ∀ k, k ≤ l.length → cutI l k ≤ l.length
  | 0, _ => Nat.le_refl _
  | k + 1, h => by
    unfold cutI
    split
    · omega
    · exact cutI_le l k (by omega)
theorem good_asc {l : List UInt8} (h : ∀ x ∈ l, GoodB x) : ∀ x ∈ l, x.toNat < 128 := fun x hx => (h x hx).1
theorem ln_notNl {l : List UInt8} (h : ∀ x ∈ l, GoodB x) : idxB lnB l = idxB (fun x => !notNl x) l := by
  induction l with
  | nil => rfl
  | cons c t ih =>
    have hc := h c (List.mem_cons_self ..)
    have e : lnB c = !notNl c := by
      have e1 : lnB c = decide (c.toNat = 10 ∨ c.toNat = 13) := by
        unfold lnB; rw [u8_beq, u8_beq, Bool.eq_iff_iff]
        simp only [Bool.or_eq_true, decide_eq_true_eq]
        rfl
      have e2 : (!notNl c) = decide (c.toNat = 10) := by unfold notNl bne; rw [Bool.not_not, u8_beq]; rfl
      rw [e1, e2, Bool.eq_iff_iff, decide_eq_true_iff, decide_eq_true_iff]
      have := hc.2.2.2.2
      omega
    show (if lnB c then some 0 else (idxB lnB t).map (· + 1)) = (if !notNl c then some 0 else (idxB (fun x => !notNl x) t).map (· + 1))
    rw [e, ih fun x hx => h x (List.mem_cons_of_mem _ hx)]
/-- How extractVarValue ends. -/
def ValP (l : List UInt8) (w : World) (e : Ending) (w' : World) : Prop :=
  (∃ a c, e = .returned (.tuple #[.string (txt (valT l)), .slice a (l.dropWhile notNl).length c, .nilIface]) ∧ Bz w' a c (l.dropWhile notNl)) ∧ Below w.heap.size w w'
set_option maxHeartbeats 6400000 in
set_option maxRecDepth 100000 in
theorem val_any (l : List UInt8) (ao : Option Addr) (cap mb : Nat) (w : World) (hB : Bz w ao cap l) (hg : ∀ x ∈ l, GoodB x) (hl : l.length ≤ 1000000) :
    Calls Tryd.prog 38 #[.slice ao l.length cap, .map (some mb)] w (ValP l w) := by
  have CI := Lib.hid (Idxf_any 55 #[] eg_ln lnB l ao cap w hB (good_asc hg) hl (ln_pred w))
  rw [ln_notNl hg] at CI
  have HQ : Hid (∀ a c W, Bz W a c (l.dropWhile notNl) → Below w.heap.size w W → ValP l w (.returned (.tuple #[.string (txt (valT l)), .slice a (l.dropWhile notNl).length c, .nilIface])) W) := fun a c W h1 h2 => ⟨⟨a, c, rfl, h1⟩, h2⟩
  obtain ⟨Q, hQ⟩ : ∃ Q, ValP l w = Q := ⟨_, rfl⟩
  rw [hQ] at HQ ⊢
  clear hQ
  cases l with
  | nil =>
    have CI2 : Hid (Calls Tryd.prog 43 #[.slice ao 0 cap, .func (.func 55) #[] #[]] w fun e w' => e = .returned (.int .i64 (-1)) ∧ w' = w) := CI.out
    have HF := Lib.hid (HQ.out none 0 w (bz_nil w) (Below.refl _ _))
    clear CI HQ hB hg hl
    show Calls _ _ #[.slice ao 0 cap, _] _ _
    go_enter Tryd.func38, Tryd.ntmps38
    go_wp2_with (first | (go_at_call 54; go_in) | (go_at_call 43; refine CI2.out.mono ?_; rintro e wd ⟨rfl, hwd⟩; obtain rfl := hwd.symm))
    first | exact HF.out | (go_ret3; exact HF.out)
  | cons c0 t0 =>
    obtain ⟨g, o, hao, hc0⟩ := hB.2 0 c0 rfl
    subst hao
    rw [Nat.add_zero] at hc0
    obtain ⟨l, hl2⟩ : ∃ l, c0 :: t0 = l := ⟨_, rfl⟩
    have hgc0 := hg c0 (List.mem_cons_self ..)
    have hpos : 0 < l.length := by rw [← hl2]; simp
    rw [hl2] at CI HQ hB hg hl ⊢
    clear hl2
    have q34 : ¬ (c0.toNat : Int) = 34 := by have := hgc0.2.2.1; omega
    have q39 : ¬ (c0.toNat : Int) = 39 := by have := hgc0.2.2.2.1; omega
    obtain ⟨y0, hy0⟩ : ∃ y, c0.toNat = y := ⟨_, rfl⟩
    rw [hy0] at hc0 q34 q39
    clear hgc0 hy0
    -- the line's length
    obtain ⟨m, hm⟩ : ∃ m, (l.takeWhile notNl).length = m := ⟨_, rfl⟩
    have hfacts : l.takeWhile notNl = l.take m ∧ l.dropWhile notNl = l.drop m ∧ m ≤ l.length ∧ (idxB (fun x => !notNl x) l = none ∧ m = l.length ∨ idxB (fun x => !notNl x) l = some m) := by
      rcases idxB_dw notNl (fun x => !notNl x) (fun c => rfl) l with ⟨k1, k2, k3⟩ | ⟨i, k1, k2, k3, k4⟩
      · rw [k3] at hm
        subst hm
        rw [k3, k2, List.take_length, List.drop_length]
        exact ⟨rfl, rfl, Nat.le_refl _, .inl ⟨k1, rfl⟩⟩
      · have : m = i := by rw [← hm, k4, List.length_take]; omega
        subst this
        exact ⟨k4, k3, Nat.le_of_lt k2, .inr k1⟩
    obtain ⟨hT1, hT2, hml, hidx⟩ := hfacts
    obtain ⟨L, hL⟩ : ∃ L, l.take m = L := ⟨_, rfl⟩
    have hLm : L.length = m := by rw [← hL, List.length_take]; omega
    have hgL : ∀ x ∈ L, GoodB x := fun x hx => hg x (List.mem_of_mem_take (hL ▸ hx))
    have hvt : valT l = trimB isSpB (cutC L) := by unfold valT; rw [hT1, hL]
    have hBd := hB.drop m hml
    rw [← hT2] at hBd
    have hdl : (l.dropWhile notNl).length = l.length - m := by rw [hT2, List.length_drop]
    have hcv0 := fun W (hW : Below w.heap.size w W) => bz_text W g o cap l m (hB.below hW) hml
    rw [hL] at hcv0
    have hcv := hcv0 w (Below.refl _ _)
    have hncap := hB.1
    have hs0 := fun W => bslice0 W (some ⟨g, o, none⟩) l.length cap m hml hncap
    have hs0w := hs0 w
    have hs1 := fun W => bslice W (some ⟨g, o, none⟩) l.length cap m hml
    have HS1 := Lib.hid hs1
    have HBD := Lib.hid fun W (hW : Below w.heap.size w W) => hBd.below hW
    have HGL := Lib.hid hgL
    rw [hdl] at HQ
    have HVT := Lib.hid hvt
    have HLM := Lib.hid hLm
    obtain ⟨am, ham⟩ : ∃ a, movA (some ⟨g, o, none⟩) cap m = a := ⟨_, rfl⟩
    have HAM := Lib.hid ham
    rw [ham] at HBD HS1
    obtain ⟨n, hn⟩ : ∃ n, l.length = n := ⟨_, rfl⟩
    rw [hn] at CI HQ hl hpos hml hs0w HS1 hncap hidx ⊢
    -- the row of characters
    have hrt := run_text_runes w (natL L) (scs_natL (good_asc hgL)) (by unfold natL; rw [List.length_map]; omega)
    rw [enc_natL L (good_asc hgL), show (natL L).length = m by unfold natL; rw [List.length_map]; exact hLm] at hrt
    have HBR := Lib.hid (runesWorld_below (Below.refl w.heap.size w) (Nat.le_refl _) (natL L))
    have HCR : Hid (∀ (j : Nat) (x : UInt8), L[j]? = some x → (runesWorld w (natL L)).cell? ⟨w.heap.size, j, none⟩ = some (.int .i32 x.toNat)) := by
      show ∀ _ _, _ → _
      intro j x hj
      have hjl := (List.getElem?_eq_some_iff.1 hj).1
      rw [runesWorld_cell w (natL L) j (by unfold natL; rw [List.length_map]; exact hjl), cells_get]
      unfold natL
      rw [List.getElem?_map, hj]
      rfl
    have hgc := grownCap_ge w m 0 21
    obtain ⟨wr2, hwr2⟩ : ∃ W, runesWorld w (natL L) = W := ⟨_, rfl⟩
    rw [hwr2] at hrt HBR HCR
    obtain ⟨rc, hrc⟩ : ∃ c, grownCap w m 0 21 = c := ⟨_, rfl⟩
    rw [hrc] at hrt hgc
    have hs1r := HS1.out wr2
    have HE : Hid (∀ k, k ≤ m → (convert 79 9 (.slice (some ⟨w.heap.size, 0, none⟩) k rc)).run Tryd.prog wr2 = .ok (.string (txt (L.take k))) wr2) := by
      show ∀ _, _ → _
      intro k hk
      have hak : ∀ x ∈ L.take k, x.toNat < 128 := fun x hx => (hgL x (List.mem_of_mem_take hx)).1
      have h := run_runes_text (w := wr2) (g := w.heap.size) (n := k) (cap := rc) (natL (L.take k)) (scs_natL hak) (by unfold natL; rw [List.length_map, List.length_take]; omega) (fun j hj => by
        have hjl : j < L.length := by omega
        rw [HCR.out j _ (List.getElem?_eq_getElem hjl), cells_get]
        unfold natL
        rw [List.getElem?_map, List.getElem?_take_of_lt hj, List.getElem?_eq_getElem hjl]
        rfl)
      rw [enc_natL _ hak] at h
      exact h
    have hsr := fun k (hk : k ≤ m) => rslice0 wr2 (some ⟨w.heap.size, 0, none⟩) m rc k hk hgc
    have HSR := Lib.hid hsr
    have HTR := Lib.hid fun k => stf_any 46 eg_sp isSpB (L.take k) wr2 (fun x hx => (hgL x (List.mem_of_mem_take hx)).1) (by rw [List.length_take]; omega) sp_pred
    have HEV := Lib.hid fun k W => ev_any (trimB isSpB (L.take k)) mb W (fun x hx => hgL x (List.mem_of_mem_take (by
      have h1 : x ∈ (L.take k).dropWhile isSpB := by
        unfold trimB trimR at hx
        exact List.mem_reverse.1 (dw_mem (List.mem_reverse.1 hx))
      exact dw_mem h1))) (by
        have h1 := (trimR_take isSpB ((L.take k).dropWhile isSpB)).2
        have h2 := drop_le isSpB (L.take k)
        rw [List.length_take] at h2
        unfold trimB
        omega)
    clear hL hT1 hT2 hm hB hBd hdl hcv0 hs0 hs1 hn hwr2 hrc hsr hvt ham hg hgL hLm
    rcases hidx with ⟨hidx, rfl⟩ | hidx
    · rw [hidx] at CI
      have CI2 : Hid (Calls Tryd.prog 43 #[.slice (some ⟨g, o, none⟩) m cap, .func (.func 55) #[] #[]] w fun e w' => e = .returned (.int .i64 (-1)) ∧ w' = w) := CI.out
      clear CI hidx
      go_enter Tryd.func38, Tryd.ntmps38
      go_wp2_with (first | (go_at_call 54; go_in) | (go_at_call 43; refine CI2.out.mono ?_; rintro e wd ⟨rfl, hwd⟩; obtain rfl := hwd.symm))
      go_loopg [11, 12] (m + 1) (fun gk v11 v12 wr => ∃ (k : Nat) (z : Int), v11 = .int .i64 m ∧ v12 = .int .i64 z ∧ z = (k : Int) - 1 ∧ k ≤ m ∧ k < gk ∧ Hid (cutI L m = cutI L k) ∧ wr = wr2)
      case atStart => exact ⟨m, _, rfl, rfl, rfl, by omega, by omega, rfl, rfl⟩
      case round =>
        obtain ⟨k, z, rfl, rfl, hz, hk, hg, HCU, hwr⟩ := hrel
        obtain rfl := hwr.symm
        by_cases hk0 : k = 0
        · subst hk0
          obtain rfl : z = -1 := by omega
          clear hz
          have HF : Hid (∀ W, Below w.heap.size w W → Q (.returned (.tuple #[.string (txt (trimB isSpB (L.take m))), .slice am (m - m) (cap - m), .nilIface])) W) := by
            show ∀ _, _ → _
            intro W hb
            have h := HQ.out am (cap - m) W (HBD.out W hb) hb
            rw [HVT.out] at h
            unfold cutC at h
            rw [HLM.out, HCU.out, cutI_len, HLM.out] at h
            exact h
          have hE1 := HE.out m (by omega)
          have hS1 := HSR.out m (by omega)
          have CT := Lib.hid (HTR.out m)
          have CE := Lib.hid (HEV.out m)
          clear HCR HE HSR HTR HEV HQ HBD HVT HLM HCU
          generalize L.take m = LE at *
          generalize trimB isSpB LE = TE at *
          go_wp2_with (go_at_call 56; refine CT.out.mono ?_; rintro e wt ⟨rfl, hbt⟩)
          have HBT := Lib.hid (HBR.out.trans (hbt.mono HBR.out.size))
          have hst := HS1.out wt
          clear hbt
          go_upto_region 19 with fail
          go_region_law (go_simp; go_at_call 57; refine (CE.out _).mono ?_; rintro e wv ⟨rfl, hbv⟩; have hsv := HS1.out wv)
          all_goals go_wp2
          all_goals
            have hfq := HF.out _ (by first | exact HBT.out.trans (hbv.mono HBT.out.size) | exact HBT.out.drew.trans (hbv.mono HBT.out.size))
            rw [← HAM.out] at hfq
            unfold movA at hfq
            by_cases hcm : cap = m
            · first
              | exact absurd hcm (by assumption)
              | (rw [if_pos hcm] at hfq; simp only [hcm, Nat.sub_self] at hfq; first | exact hfq | (go_ret3; exact hfq))
            · first
              | exact absurd (by assumption) hcm
              | (rw [if_neg hcm] at hfq; (try simp only [Nat.sub_self] at hfq); simp only [Option.map_some, Addr.add_lit] at hfq; first | exact hfq | (go_ret3; exact hfq))
        · obtain ⟨i, rfl⟩ : ∃ i, k = i + 1 := ⟨k - 1, by omega⟩
          obtain rfl : z = (i : Int) := by omega
          clear hz
          obtain ⟨gk, rfl⟩ : ∃ x, gk = x + 1 := ⟨gk - 1, by omega⟩
          have hil : i < L.length := by have := HLM.out; omega
          have hxi := List.getElem?_eq_getElem hil
          generalize L[i] = x at hxi
          have hcx := HCR.out i x hxi
          have hstep : cutI L (i + 1) = if L[i]? == some 35 && decide (0 < i) && ((L[i - 1]?).map isSpB).getD false then i else cutI L i := rfl
          rw [hxi] at hstep
          by_cases h35 : x = 35
          · subst h35
            by_cases hi0 : i = 0
            · subst hi0
              have HC2 : Hid (cutI L m = cutI L 0) := HCU.out.trans hstep
              clear hstep HCU hxi
              go_wp2
              go_roundg gk
              case rel => exact ⟨0, -1, rfl, by go_num, rfl, by omega, by omega, HC2.out, rfl⟩
              case measure => omega
            · obtain ⟨j, rfl⟩ : ∃ j, i = j + 1 := ⟨i - 1, by omega⟩
              have hjl : j < L.length := by omega
              have hxj := List.getElem?_eq_getElem hjl
              have hgj := HGL.out _ (List.getElem_mem hjl)
              generalize L[j] = x2 at hxj hgj
              have hcj := HCR.out j x2 hxj
              have CS := Lib.hid (sp_b x2 wr2 hgj.1)
              rw [show j + 1 - 1 = j from rfl, hxj] at hstep
              obtain ⟨sb, hsb⟩ : ∃ q, isSpB x2 = q := ⟨_, rfl⟩
              rw [hsb] at CS
              have hst2 : cutI L (j + 1 + 1) = if sb then j + 1 else cutI L (j + 1) := by
                rw [hstep]
                simp [hsb]
              obtain ⟨y2, hy2⟩ : ∃ y, x2.toNat = y := ⟨_, rfl⟩
              rw [hy2] at CS hcj
              have hzj : ((j + 1 : Nat) : Int) - 1 = j := by omega
              have hzj2 : ((j : Int) + 1) - 1 = j := by omega
              clear hstep hxi hxj hgj hsb hy2 hk0
              cases sb with
              | true =>
                have HCU2 : Hid (cutI L m = j + 1) := by
                  show _ = _
                  rw [HCU.out, hst2]; rfl
                clear hst2 HCU
                have HCU := HCU2
                clear HCU2
                have HF : Hid (∀ W, Below w.heap.size w W → Q (.returned (.tuple #[.string (txt (trimB isSpB (L.take (j + 1)))), .slice am (m - m) (cap - m), .nilIface])) W) := by
                  show ∀ _, _ → _
                  intro W hb
                  have h := HQ.out am (cap - m) W (HBD.out W hb) hb
                  rw [HVT.out] at h
                  unfold cutC at h
                  rw [HLM.out, HCU.out] at h
                  exact h
                have hE1 := HE.out (j + 1) (by omega)
                have hS1 := HSR.out (j + 1) (by omega)
                rw [show ((j + 1 : Nat) : Int) = (j : Int) + 1 from rfl] at hS1
                have CT := Lib.hid (HTR.out (j + 1))
                have CE := Lib.hid (HEV.out (j + 1))
                clear HCR HE HSR HTR HEV HQ HBD HVT HLM HCU
                generalize L.take (j + 1) = LE at *
                generalize trimB isSpB LE = TE at *
                go_wp2_with (first | (go_at_call 46; refine CS.out.mono ?_; rintro e wd ⟨rfl, hwd⟩; obtain rfl := hwd.symm) | (go_at_call 56; refine CT.out.mono ?_; rintro e wt ⟨rfl, hbt⟩))
                have HBT := Lib.hid (HBR.out.trans (hbt.mono HBR.out.size))
                have hst := HS1.out wt
                clear hbt
                go_upto_region 19 with fail
                go_region_law (go_simp; go_at_call 57; refine (CE.out _).mono ?_; rintro e wv ⟨rfl, hbv⟩; have hsv := HS1.out wv)
                all_goals go_wp2
                all_goals
                  have hfq := HF.out _ (by first | exact HBT.out.trans (hbv.mono HBT.out.size) | exact HBT.out.drew.trans (hbv.mono HBT.out.size))
                  rw [← HAM.out] at hfq
                  unfold movA at hfq
                  by_cases hcm : cap = m
                  · first
                    | exact absurd hcm (by assumption)
                    | (rw [if_pos hcm] at hfq; simp only [hcm, Nat.sub_self] at hfq; first | exact hfq | (go_ret3; exact hfq))
                  · first
                    | exact absurd (by assumption) hcm
                    | (rw [if_neg hcm] at hfq; (try simp only [Nat.sub_self] at hfq); simp only [Option.map_some, Addr.add_lit] at hfq; first | exact hfq | (go_ret3; exact hfq))
              | false =>
                have HC2 : Hid (cutI L m = cutI L (j + 1)) := by
                  show _ = _
                  rw [HCU.out, hst2]; rfl
                clear hst2 HCU
                go_wp2_with (go_at_call 46; refine CS.out.mono ?_; rintro e wd ⟨rfl, hwd⟩; obtain rfl := hwd.symm)
                go_roundg gk
                case rel => exact ⟨j + 1, (j : Int), rfl, by go_num, by omega, by omega, by omega, HC2.out, rfl⟩
                case measure => omega
          · have HC2 : Hid (cutI L m = cutI L i) := by
              show _ = _
              rw [HCU.out, hstep, if_neg]
              have : (some x == some (35 : UInt8)) = false := beq_eq_false_iff_ne.2 fun e => h35 (Option.some.inj e)
              rw [this]
              simp
            have hz35 : ¬ (x.toNat : Int) = 35 := fun e => h35 (UInt8.toNat_inj.1 (by show x.toNat = 35; omega))
            obtain ⟨y, hy⟩ : ∃ y, x.toNat = y := ⟨_, rfl⟩
            rw [hy] at hcx hz35
            clear hstep HCU hxi hy h35
            go_wp2
            go_roundg gk
            case rel => exact ⟨i, (i : Int) - 1, rfl, by go_num, rfl, by omega, by omega, HC2.out, rfl⟩
            case measure => omega
    · rw [hidx] at CI
      have CI2 : Hid (Calls Tryd.prog 43 #[.slice (some ⟨g, o, none⟩) n cap, .func (.func 55) #[] #[]] w fun e w' => e = .returned (.int .i64 (m : Int)) ∧ w' = w) := CI.out
      have hm1 : ¬ (m : Int) = -1 := by omega
      clear CI hidx
      by_cases hm0 : m = 0
      · have hL0 : L = [] := List.eq_nil_of_length_eq_zero (HLM.out.trans hm0)
        have hmb : ((m : Int) == 0) = true := by rw [hm0]; rfl
        have HF : Hid (∀ W, Below w.heap.size w W → Q (.returned (.tuple #[.string ⟨#[]⟩, .slice am (n - m) (cap - m), .nilIface])) W) := by
          show ∀ _, _ → _
          intro W hb
          have h := HQ.out am (cap - m) W (HBD.out W hb) hb
          rw [HVT.out, hL0] at h
          exact h
        have hs1d := HS1.out wr2.drew
        clear HCR HE HSR HTR HEV HQ HBD HVT HLM hL0 hm0
        go_enter Tryd.func38, Tryd.ntmps38
        go_upto_region 11 with (first | (go_at_call 54; go_in) | (go_at_call 43; refine CI2.out.mono ?_; rintro e wd ⟨rfl, hwd⟩; obtain rfl := hwd.symm))
        go_region
        all_goals go_wp2
        all_goals
          have hfq := HF.out _ HBR.out.drew
          rw [← HAM.out] at hfq
          unfold movA at hfq
          by_cases hcm : cap = m
          · first
            | exact absurd hcm (by assumption)
            | (rw [if_pos hcm] at hfq; simp only [hcm, Nat.sub_self] at hfq; first | exact hfq | (go_ret3; exact hfq))
          · first
            | exact absurd (by assumption) hcm
            | (rw [if_neg hcm] at hfq; (try simp only [Nat.sub_self] at hfq); simp only [Option.map_some, Addr.add_lit] at hfq; first | exact hfq | (go_ret3; exact hfq))
      have hmb0 : ((m : Int) == 0) = false := beq_eq_false_iff_ne.2 (by omega)
      have hmb1 : ((m : Int) == -1) = false := beq_eq_false_iff_ne.2 (by omega)
      go_enter Tryd.func38, Tryd.ntmps38
      go_wp2_with (first | (go_at_call 54; go_in) | (go_at_call 43; refine CI2.out.mono ?_; rintro e wd ⟨rfl, hwd⟩; obtain rfl := hwd.symm))
      clear hm1 hm0 hmb0 hmb1
      go_loopg [11, 12] (m + 1) (fun gk v11 v12 wr => ∃ (k : Nat) (z : Int), v11 = .int .i64 m ∧ v12 = .int .i64 z ∧ z = (k : Int) - 1 ∧ k ≤ m ∧ k < gk ∧ Hid (cutI L m = cutI L k) ∧ wr = wr2)
      case atStart => exact ⟨m, _, rfl, rfl, rfl, by omega, by omega, rfl, rfl⟩
      case round =>
        obtain ⟨k, z, rfl, rfl, hz, hk, hg, HCU, hwr⟩ := hrel
        obtain rfl := hwr.symm
        by_cases hk0 : k = 0
        · subst hk0
          obtain rfl : z = -1 := by omega
          clear hz
          have HF : Hid (∀ W, Below w.heap.size w W → Q (.returned (.tuple #[.string (txt (trimB isSpB (L.take m))), .slice am (n - m) (cap - m), .nilIface])) W) := by
            show ∀ _, _ → _
            intro W hb
            have h := HQ.out am (cap - m) W (HBD.out W hb) hb
            rw [HVT.out] at h
            unfold cutC at h
            rw [HLM.out, HCU.out, cutI_len, HLM.out] at h
            exact h
          have hE1 := HE.out m (by omega)
          have hS1 := HSR.out m (by omega)
          have CT := Lib.hid (HTR.out m)
          have CE := Lib.hid (HEV.out m)
          clear HCR HE HSR HTR HEV HQ HBD HVT HLM HCU
          generalize L.take m = LE at *
          generalize trimB isSpB LE = TE at *
          go_wp2_with (go_at_call 56; refine CT.out.mono ?_; rintro e wt ⟨rfl, hbt⟩)
          have HBT := Lib.hid (HBR.out.trans (hbt.mono HBR.out.size))
          have hst := HS1.out wt
          clear hbt
          go_upto_region 19 with fail
          go_region_law (go_simp; go_at_call 57; refine (CE.out _).mono ?_; rintro e wv ⟨rfl, hbv⟩; have hsv := HS1.out wv)
          all_goals go_wp2
          all_goals
            have hfq := HF.out _ (by first | exact HBT.out.trans (hbv.mono HBT.out.size) | exact HBT.out.drew.trans (hbv.mono HBT.out.size))
            rw [← HAM.out] at hfq
            unfold movA at hfq
            by_cases hcm : cap = m
            · first
              | exact absurd hcm (by assumption)
              | (rw [if_pos hcm] at hfq; simp only [hcm, Nat.sub_self] at hfq; first | exact hfq | (go_ret3; exact hfq))
            · first
              | exact absurd (by assumption) hcm
              | (rw [if_neg hcm] at hfq; (try simp only [Nat.sub_self] at hfq); simp only [Option.map_some, Addr.add_lit] at hfq; first | exact hfq | (go_ret3; exact hfq))
        · obtain ⟨i, rfl⟩ : ∃ i, k = i + 1 := ⟨k - 1, by omega⟩
          obtain rfl : z = (i : Int) := by omega
          clear hz
          obtain ⟨gk, rfl⟩ : ∃ x, gk = x + 1 := ⟨gk - 1, by omega⟩
          have hil : i < L.length := by have := HLM.out; omega
          have hxi := List.getElem?_eq_getElem hil
          generalize L[i] = x at hxi
          have hcx := HCR.out i x hxi
          have hstep : cutI L (i + 1) = if L[i]? == some 35 && decide (0 < i) && ((L[i - 1]?).map isSpB).getD false then i else cutI L i := rfl
          rw [hxi] at hstep
          by_cases h35 : x = 35
          · subst h35
            by_cases hi0 : i = 0
            · subst hi0
              have HC2 : Hid (cutI L m = cutI L 0) := HCU.out.trans hstep
              clear hstep HCU hxi
              go_wp2
              go_roundg gk
              case rel => exact ⟨0, -1, rfl, by go_num, rfl, by omega, by omega, HC2.out, rfl⟩
              case measure => omega
            · obtain ⟨j, rfl⟩ : ∃ j, i = j + 1 := ⟨i - 1, by omega⟩
              have hjl : j < L.length := by omega
              have hxj := List.getElem?_eq_getElem hjl
              have hgj := HGL.out _ (List.getElem_mem hjl)
              generalize L[j] = x2 at hxj hgj
              have hcj := HCR.out j x2 hxj
              have CS := Lib.hid (sp_b x2 wr2 hgj.1)
              rw [show j + 1 - 1 = j from rfl, hxj] at hstep
              obtain ⟨sb, hsb⟩ : ∃ q, isSpB x2 = q := ⟨_, rfl⟩
              rw [hsb] at CS
              have hst2 : cutI L (j + 1 + 1) = if sb then j + 1 else cutI L (j + 1) := by
                rw [hstep]
                simp [hsb]
              obtain ⟨y2, hy2⟩ : ∃ y, x2.toNat = y := ⟨_, rfl⟩
              rw [hy2] at CS hcj
              have hzj : ((j + 1 : Nat) : Int) - 1 = j := by omega
              have hzj2 : ((j : Int) + 1) - 1 = j := by omega
              clear hstep hxi hxj hgj hsb hy2 hk0
              cases sb with
              | true =>
                have HCU2 : Hid (cutI L m = j + 1) := by
                  show _ = _
                  rw [HCU.out, hst2]; rfl
                clear hst2 HCU
                have HCU := HCU2
                clear HCU2
                have HF : Hid (∀ W, Below w.heap.size w W → Q (.returned (.tuple #[.string (txt (trimB isSpB (L.take (j + 1)))), .slice am (n - m) (cap - m), .nilIface])) W) := by
                  show ∀ _, _ → _
                  intro W hb
                  have h := HQ.out am (cap - m) W (HBD.out W hb) hb
                  rw [HVT.out] at h
                  unfold cutC at h
                  rw [HLM.out, HCU.out] at h
                  exact h
                have hE1 := HE.out (j + 1) (by omega)
                have hS1 := HSR.out (j + 1) (by omega)
                rw [show ((j + 1 : Nat) : Int) = (j : Int) + 1 from rfl] at hS1
                have CT := Lib.hid (HTR.out (j + 1))
                have CE := Lib.hid (HEV.out (j + 1))
                clear HCR HE HSR HTR HEV HQ HBD HVT HLM HCU
                generalize L.take (j + 1) = LE at *
                generalize trimB isSpB LE = TE at *
                go_wp2_with (first | (go_at_call 46; refine CS.out.mono ?_; rintro e wd ⟨rfl, hwd⟩; obtain rfl := hwd.symm) | (go_at_call 56; refine CT.out.mono ?_; rintro e wt ⟨rfl, hbt⟩))
                have HBT := Lib.hid (HBR.out.trans (hbt.mono HBR.out.size))
                have hst := HS1.out wt
                clear hbt
                go_upto_region 19 with fail
                go_region_law (go_simp; go_at_call 57; refine (CE.out _).mono ?_; rintro e wv ⟨rfl, hbv⟩; have hsv := HS1.out wv)
                all_goals go_wp2
                all_goals
                  have hfq := HF.out _ (by first | exact HBT.out.trans (hbv.mono HBT.out.size) | exact HBT.out.drew.trans (hbv.mono HBT.out.size))
                  rw [← HAM.out] at hfq
                  unfold movA at hfq
                  by_cases hcm : cap = m
                  · first
                    | exact absurd hcm (by assumption)
                    | (rw [if_pos hcm] at hfq; simp only [hcm, Nat.sub_self] at hfq; first | exact hfq | (go_ret3; exact hfq))
                  · first
                    | exact absurd (by assumption) hcm
                    | (rw [if_neg hcm] at hfq; (try simp only [Nat.sub_self] at hfq); simp only [Option.map_some, Addr.add_lit] at hfq; first | exact hfq | (go_ret3; exact hfq))
              | false =>
                have HC2 : Hid (cutI L m = cutI L (j + 1)) := by
                  show _ = _
                  rw [HCU.out, hst2]; rfl
                clear hst2 HCU
                go_wp2_with (go_at_call 46; refine CS.out.mono ?_; rintro e wd ⟨rfl, hwd⟩; obtain rfl := hwd.symm)
                go_roundg gk
                case rel => exact ⟨j + 1, (j : Int), rfl, by go_num, by omega, by omega, by omega, HC2.out, rfl⟩
                case measure => omega
          · have HC2 : Hid (cutI L m = cutI L i) := by
              show _ = _
              rw [HCU.out, hstep, if_neg]
              have : (some x == some (35 : UInt8)) = false := beq_eq_false_iff_ne.2 fun e => h35 (Option.some.inj e)
              rw [this]
              simp
            have hz35 : ¬ (x.toNat : Int) = 35 := fun e => h35 (UInt8.toNat_inj.1 (by show x.toNat = 35; omega))
            obtain ⟨y, hy⟩ : ∃ y, x.toNat = y := ⟨_, rfl⟩
            rw [hy] at hcx hz35
            clear hstep HCU hxi hy h35
            go_wp2
            go_roundg gk
            case rel => exact ⟨i, (i : Int) - 1, rfl, by go_num, rfl, by omega, by omega, HC2.out, rfl⟩
            case measure => omega
end Go.Proofs.YtdfhidnhkeapbaaDoor
