/- godotenv.locateKeyName over a slice of bytes. Conditions: bytes below 128, the first one no blank; the table unicode.properties. -/
import Derived.Test.YtdfhidnhkeapbaaDoorJLoc
import Derived.Deep.RegionWith
import Derived.Lib.SlBytesConst
import Derived.BigQuiet
import Derived.StillTailTactics
import Derived.Deep.Cut
import Derived.Deep.CutRange
import Derived.Deep.DeepCutAuto
import Derived.Deep.QuietTactic
namespace Go.Proofs.YtdfhidnhkeapbaaDoor
open Go.RowKit U8
open Go.Lib hiding intOf

theorem bytesOf_natJ (l : List UInt8) : bytesOf (l.map fun b => (b.toNat : Int)) = l := by
  unfold bytesOf
  rw [List.map_map]
  conv => rhs; rw [← List.map_id l]
  refine List.map_congr_left fun b _ => ?_
  simp
theorem bz_cells {W : World} {g o cap : Nat} {l : List UInt8} (h : Bz W (some ⟨g, o, none⟩) cap l) : ∀ i, i < l.length → W.cell? ⟨g, o + i, none⟩ = some (.int .u8 ((l.map fun b => (b.toNat : Int)).getD i 0)) := fun i hi => by
  obtain ⟨g2, o2, e, hc⟩ := h.2 i _ (List.getElem?_eq_getElem hi)
  cases e
  rw [hc, List.getD_eq_getElem?_getD, List.getElem?_map, List.getElem?_eq_getElem hi]
  rfl
theorem conv_ex (W : World) : (convert 52 52 (.slice (some ⟨W.heap.size, 0, none⟩) 6 6)).run Tryd.prog (W.alloc (.cells #[.int .u8 101, .int .u8 120, .int .u8 112, .int .u8 111, .int .u8 114, .int .u8 116] 5)) = .ok (.slice (some ⟨W.heap.size, 0, none⟩) 6 6) (W.alloc (.cells #[.int .u8 101, .int .u8 120, .int .u8 112, .int .u8 111, .int .u8 114, .int .u8 116] 5 (6, 7))) :=
  run_convert_bytes_const W 52 5 _ 6 6 Tryd.underlying52 Tryd.underlying5
theorem ex_cells (W : World) : ∀ i, i < 6 → (W.alloc (.cells #[.int .u8 101, .int .u8 120, .int .u8 112, .int .u8 111, .int .u8 114, .int .u8 116] 5 (6, 7))).cell? ⟨W.heap.size, 0 + i, none⟩ = some (.int .u8 (([101, 120, 112, 111, 114, 116] : List Int).getD i 0)) := fun i hi => by
  rw [Nat.zero_add, World.cell?_alloc_mark]
  match i, hi with
  | 0, _ => rfl
  | 1, _ => rfl
  | 2, _ => rfl
  | 3, _ => rfl
  | 4, _ => rfl
  | 5, _ => rfl
theorem hasP (g o cap : Nat) (l : List UInt8) (w : World) (h : Bz w (some ⟨g, o, none⟩) cap l) :
    Calls Tryd.prog 47 #[.slice (some ⟨g, o, none⟩) l.length cap, .slice (some ⟨w.heap.size, 0, none⟩) 6 6] (w.alloc (.cells #[.int .u8 101, .int .u8 120, .int .u8 112, .int .u8 111, .int .u8 114, .int .u8 116] 5 (6, 7))) fun e w' => e = .returned (.bool (expT.isPrefixOf l)) ∧ w' = w.alloc (.cells #[.int .u8 101, .int .u8 120, .int .u8 112, .int .u8 111, .int .u8 114, .int .u8 116] 5 (6, 7)) := by
  have h2 := h.below ((Below.refl _ w).alloc (Nat.le_refl _) (.cells #[.int .u8 101, .int .u8 120, .int .u8 112, .int .u8 111, .int .u8 114, .int .u8 116] 5 (6, 7)))
  refine (Tryd.bytes_HasPrefix g o l.length cap w.heap.size 0 6 6 (l.map fun b => (b.toNat : Int)) [101, 120, 112, 111, 114, 116] _ (by simp) rfl h.1 (bz_cells h2) (ex_cells w)).mono ?_
  rintro e w' ⟨rfl, rfl⟩
  rw [bytesOf_natJ]
  exact ⟨rfl, rfl⟩
theorem trimP (g o cap : Nat) (l : List UInt8) (w : World) (h : Bz w (some ⟨g, o, none⟩) cap l) (hp : expT.isPrefixOf l = true) :
    Calls Tryd.prog 48 #[.slice (some ⟨g, o, none⟩) l.length cap, .slice (some ⟨w.heap.size, 0, none⟩) 6 6] (w.alloc (.cells #[.int .u8 101, .int .u8 120, .int .u8 112, .int .u8 111, .int .u8 114, .int .u8 116] 5 (6, 7))) fun e w' => (∃ a c, e = .returned (.slice a (l.drop 6).length c) ∧ Bz w' a c (l.drop 6)) ∧ w' = w.alloc (.cells #[.int .u8 101, .int .u8 120, .int .u8 112, .int .u8 111, .int .u8 114, .int .u8 116] 5 (6, 7)) := by
  have h2 := h.below ((Below.refl _ w).alloc (Nat.le_refl _) (.cells #[.int .u8 101, .int .u8 120, .int .u8 112, .int .u8 111, .int .u8 114, .int .u8 116] 5 (6, 7)))
  have h6 : 6 ≤ l.length := prefix_len hp
  refine (Tryd.bytes_TrimPrefix g o l.length cap w.heap.size 0 6 6 (l.map fun b => (b.toNat : Int)) [101, 120, 112, 111, 114, 116] _ (by simp) rfl h.1 (bz_cells h2) (ex_cells w)).mono ?_
  rintro e w' ⟨rfl, rfl⟩
  refine ⟨⟨movA (some ⟨g, o, none⟩) cap 6, cap - 6, ?_, h2.drop 6 h6⟩, rfl⟩
  unfold bytesTrimPrefix
  rw [bytesOf_natJ, if_pos (show hasPrefix l (bytesOf [101, 120, 112, 111, 114, 116]) = true from hp), List.length_drop]
  show Ending.returned (sliceFrom g o l.length cap 6) = _
  unfold sliceFrom movA
  split <;> rfl
/-- How locateKeyName ends. -/
def LocP (l : List UInt8) (w : World) (e : Ending) (w' : World) : Prop :=
  ((locS l = none ∧ ∃ ev, e = .returned (.tuple #[.string ⟨#[]⟩, .slice none 0 0, .iface 97 (.pointer (some ⟨ev, 0, none⟩))])) ∨ ∃ k r, locS l = some (k, r) ∧ ∃ a c, e = .returned (.tuple #[.string (txt k), .slice a r.length c, .nilIface]) ∧ Bz w' a c r) ∧ Below w.heap.size w w'
set_option maxHeartbeats 100000000 in
set_option maxRecDepth 100000 in
theorem loc_any (l : List UInt8) (ao : Option Addr) (cap : Nat) (w : World) (hB : Bz w ao cap l) (ha : ∀ x ∈ l, x.toNat < 128) (hl : l.length ≤ 1000000) (h0 : l ≠ []) (hs : l.dropWhile isSpB = l) (hT : Pt w) :
    Calls Tryd.prog 37 #[.slice ao l.length cap] w (LocP l w) := by
  have HQE : Hid (locS l = none → ∀ ev W, Below w.heap.size w W → LocP l w (.returned (.tuple #[.string ⟨#[]⟩, .slice none 0 0, .iface 97 (.pointer (some ⟨ev, 0, none⟩))])) W) := fun h ev W hb => ⟨.inl ⟨h, ev, rfl⟩, hb⟩
  have HQO : Hid (∀ k r, locS l = some (k, r) → ∀ a c W, Bz W a c r → Below w.heap.size w W → LocP l w (.returned (.tuple #[.string (txt k), .slice a r.length c, .nilIface])) W) := fun k r h a c W hz hb => ⟨.inr ⟨k, r, h, a, c, rfl, hz⟩, hb⟩
  have C1 := Lib.hid (trimL_any 46 #[] eg_sp isSpB l ao cap w hB ha hl (sp_pred w))
  rw [hs] at C1
  obtain ⟨Q, hQ⟩ : ∃ Q, LocP l w = Q := ⟨_, rfl⟩
  rw [hQ] at HQE HQO ⊢
  have HLE : Hid (locS l = locT (expS l)) := by
    show _ = _
    unfold locS
    rw [hs]
  have HA := Lib.hid ha
  have HT0 := Lib.hid hT
  have hl0 : 0 < l.length := List.length_pos_iff.2 h0
  clear hQ hB ha hs hT h0
  go_enter Tryd.func37, Tryd.ntmps37
  go_wp2_with fail
  go_step3
  go_wp2_with fail
  refine C1.out.mono ?_
  rintro e wd ⟨⟨a1, c1, rfl, hb1⟩, hwd⟩
  obtain rfl := hwd.symm
  obtain ⟨g1, o1, hao⟩ : ∃ g o, a1 = some ⟨g, o, none⟩ := by
    obtain ⟨g, o, e, _⟩ := hb1.2 0 _ (List.getElem?_eq_getElem hl0)
    exact ⟨g, o, e⟩
  subst hao
  have CH := Lib.hid (hasP g1 o1 c1 l w hb1)
  obtain ⟨pb, hpb⟩ : ∃ q, expT.isPrefixOf l = q := ⟨_, rfl⟩
  rw [hpb] at CH
  have HPB := Lib.hid hpb
  have HBW1 := Lib.hid ((Below.refl w.heap.size w).alloc (Nat.le_refl _) (.cells #[.int .u8 101, .int .u8 120, .int .u8 112, .int .u8 111, .int .u8 114, .int .u8 116] 5 (6, 7)))
  have HB1 := Lib.hid (hb1.below HBW1.out)
  clear C1 hb1 hpb
  have hcx := conv_ex w
  go_wp2_with fail
  refine CH.out.mono ?_
  rintro e wd ⟨rfl, hwd⟩
  obtain rfl := hwd.symm
  clear CH hcx
  obtain ⟨ws, hws⟩ : ∃ W, w.alloc (.cells #[.int .u8 101, .int .u8 120, .int .u8 112, .int .u8 111, .int .u8 114, .int .u8 116] 5 (6, 7)) = W := ⟨_, rfl⟩
  rw [hws] at HBW1 HB1 ⊢
  clear hws
  go_upto_if 15 with fail
  go_cut [0, 5] from 16 to 24 (fun v0 _ wx => ∃ (S : List UInt8) (ax : Option Addr) (cs : Nat), v0 = .slice ax S.length cs ∧ S.length ≤ 1000000 ∧ Hid (locS l = locT S) ∧ Hid (Bz wx ax cs S) ∧ Hid (∀ x ∈ S, x.toNat < 128) ∧ Hid (Below w.heap.size w wx))
  case first =>
    cases pb with
    | false =>
      have HLS : Hid (locS l = locT l) := by
        show _ = _
        rw [HLE.out]
        unfold expS
        rw [HPB.out]; rfl
      go_wp2
      go_meet
      exact ⟨l, _, c1, rfl, hl, HLS.out, HB1.out, HA.out, HBW1.out⟩
    | true =>
      have CT := Lib.hid (trimP g1 o1 c1 l ws HB1.out HPB.out)
      have HBW2 := Lib.hid (HBW1.out.alloc HBW1.out.size (.cells #[.int .u8 101, .int .u8 120, .int .u8 112, .int .u8 111, .int .u8 114, .int .u8 116] 5 (6, 7)))
      have hcx := conv_ex ws
      go_wp2_with fail
      refine CT.out.mono ?_
      rintro e wd ⟨⟨a5, c5, rfl, hb5⟩, hwd⟩
      obtain rfl := hwd.symm
      have HB15 := Lib.hid (HB1.out.below ((Below.refl _ ws).alloc (Nat.le_refl _) (.cells #[.int .u8 101, .int .u8 120, .int .u8 112, .int .u8 111, .int .u8 114, .int .u8 116] 5 (6, 7))))
      obtain ⟨w5, hw5⟩ : ∃ W, ws.alloc (.cells #[.int .u8 101, .int .u8 120, .int .u8 112, .int .u8 111, .int .u8 114, .int .u8 116] 5 (6, 7)) = W := ⟨_, rfl⟩
      rw [hw5] at HBW2 hb5 HB15 ⊢
      have hdl5 : (l.drop 6).length ≤ 1000000 := by rw [List.length_drop]; omega
      have hda5 : ∀ x ∈ l.drop 6, x.toNat < 128 := fun x hx => HA.out x (List.mem_of_mem_drop hx)
      have CI := Lib.hid (Idxf_any 46 #[] eg_sp isSpB (l.drop 6) a5 c5 w5 hb5 hda5 hdl5 (sp_pred w5))
      have CTL5 := Lib.hid (trimL_any 46 #[] eg_sp isSpB (l.drop 6) a5 c5 w5 hb5 hda5 hdl5 (sp_pred w5))
      obtain ⟨hb, hhb⟩ : ∃ q, ((l.drop 6).head?.map isSpB).getD false = q := ⟨_, rfl⟩
      have HHB := Lib.hid hhb
      have hidx : (idxI (idxB isSpB (l.drop 6)) == 0) = hb := by
        rw [← hhb]
        cases hd : l.drop 6 with
        | nil => rfl
        | cons c t =>
          show (idxI (if isSpB c then some 0 else (idxB isSpB t).map (· + 1)) == 0) = isSpB c
          cases isSpB c with
          | true => rfl
          | false =>
            cases idxB isSpB t with
            | none => rfl
            | some i => simp [idxI]; omega
      have hdw5 := drop_le isSpB (l.drop 6)
      rw [List.length_drop] at CI CTL5
      clear CT hw5 hcx HB1 HBW1 hb5 hhb
      obtain ⟨I, hI⟩ : ∃ I, idxI (idxB isSpB (l.drop 6)) = I := ⟨_, rfl⟩
      rw [hI] at CI hidx
      clear hI
      go_wp2_with fail
      refine CI.out.mono ?_
      rintro e wd ⟨rfl, hwd⟩
      obtain rfl := hwd.symm
      clear CI
      cases hb with
      | false =>
        have hI0 : ¬ I = 0 := beq_eq_false_iff_ne.1 hidx
        have HLS : Hid (locS l = locT l) := by
          show _ = _
          rw [HLE.out]
          unfold expS
          rw [HPB.out, HHB.out]; rfl
        go_wp2
        go_meet
        exact ⟨l, _, c1, rfl, hl, HLS.out, HB15.out, HA.out, HBW2.out⟩
      | true =>
        have hI0 : I = 0 := beq_iff_eq.1 hidx
        subst hI0
        go_wp2_with fail
        refine CTL5.out.mono ?_
        rintro e wd ⟨⟨a6, c6, rfl, hb6⟩, hwd⟩
        obtain rfl := hwd.symm
        have HLS : Hid (locS l = locT ((l.drop 6).dropWhile isSpB)) := by
          show _ = _
          rw [HLE.out]
          unfold expS
          rw [HPB.out, HHB.out]; rfl
        have HB6 := Lib.hid hb6
        clear hb6
        go_wp2
        go_meet
        exact ⟨_, _, c6, rfl, by omega, HLS.out, HB6.out, fun x hx => hda5 x (dw_mem hx), HBW2.out⟩
  case rest =>
  clear HPB HB1 HBW1 HLE HA hl hl0
  obtain ⟨S, ax, cs, rfl, hSl, HLS, HBS, HAS, HBW⟩ := hcut
  rename World => wt
  have HT := Lib.hid (HT0.out.below HBW.out)
  have hncs : S.length ≤ cs := HBS.out.1
  obtain ⟨n, hn⟩ : ∃ n, S.length = n := ⟨_, rfl⟩
  have HN := Lib.hid hn
  rw [hn] at hSl hncs ⊢
  clear hn
  by_cases hn0 : n = 0
  · have HE : Hid (locS l = none) := by
      show _ = _
      have : S = [] := List.eq_nil_of_length_eq_zero (HN.out.trans hn0)
      rw [HLS.out, this]; rfl
    subst hn0
    go_wp2
    go_step3
    go_wp2
    go_loopg [2, 6, 27] 1 (fun gk v2 v6 v27 wr => v2 = .string ⟨#[]⟩ ∧ v6 = .int .i64 0 ∧ v27 = .int .i64 0 ∧ wr = wt)
    case atStart => exact ⟨rfl, rfl, rfl, rfl⟩
    case round =>
      obtain ⟨rfl, rfl, rfl, hwr⟩ := hrel
      obtain rfl := hwr.symm
      have HB2 := Lib.hid (HBW.out.alloc HBW.out.size (.cells #[.string ⟨#[122, 101, 114, 111, 32, 108, 101, 110, 103, 116, 104, 32, 115, 116, 114, 105, 110, 103]⟩] 99))
      go_wp2_with (go_at_call 51; go_in)
      first | exact HQE.out HE.out _ _ HB2.out | (go_ret3; exact HQE.out HE.out _ _ HB2.out) | (simp only [Exit.noGoto]; go_ret3; exact HQE.out HE.out _ _ HB2.out)
  · obtain ⟨g, o, hao⟩ : ∃ g o, ax = some ⟨g, o, none⟩ := by
      obtain ⟨g, o, e, _⟩ := HBS.out.2 0 _ (List.getElem?_eq_getElem (by have := HN.out; omega))
      exact ⟨g, o, e⟩
    subst hao
    go_wp2
    go_step3
    go_wp2
    go_loopg [2, 6, 27] (n + 1) (fun gk v2 v6 v27 wr => ∃ k : Nat, v2 = .string ⟨#[]⟩ ∧ v6 = .int .i64 0 ∧ v27 = .int .i64 k ∧ k ≤ n ∧ n - k < gk ∧ Hid (∀ x ∈ S.take k, okC x = true) ∧ wr = wt)
    case atStart => exact ⟨0, rfl, rfl, rfl, by omega, by omega, (fun x hx => by simp at hx), rfl⟩
    case round =>
      obtain ⟨k, rfl, rfl, rfl, hk, hg, HOK, hwr⟩ := hrel
      obtain rfl := hwr.symm
      by_cases hlt : k < n
      · obtain ⟨gk, rfl⟩ : ∃ m, gk = m + 1 := ⟨gk - 1, by omega⟩
        have hkl : k < S.length := by have := HN.out; omega
        have hd := List.drop_eq_getElem_cons hkl
        have htk := List.take_succ_eq_append_getElem hkl
        have hmem := List.getElem_mem hkl
        have hgx := List.getElem?_eq_getElem hkl
        generalize S[k] = c at hd htk hmem hgx
        obtain ⟨g', o', e', hcell⟩ := HBS.out.2 k c hgx
        cases e'
        have hc := HAS.out c hmem
        have CSP := Lib.hid (sp_b c wt hc)
        have CLE := Lib.hid (lett_b c wt hc HT.out)
        have CDI := Lib.hid (dig_b c wt hc HT.out)
        have HNB := Lib.hid (nameB_eq c)
        have HD := Lib.hid hd
        have HTK := Lib.hid htk
        have HOK2 : okC c = true → Hid (∀ x ∈ S.take (k + 1), okC x = true) := fun h => by
          show ∀ _ _, _
          rw [HTK.out]
          intro x hx
          rcases List.mem_append.1 hx with hx | hx
          · exact HOK.out x hx
          · rw [List.mem_singleton.1 hx]; exact h
        have HDW : okC c = false → S.dropWhile okC = c :: S.drop (k + 1) ∧ S.takeWhile okC = S.take k := fun h => by
          have := dw_of (p := okC) (S.take k) (S.drop k) HOK.out (.inr ⟨c, _, HD.out, h⟩)
          rw [List.take_append_drop] at this
          rw [HD.out] at this
          exact this
        have HOKB : Hid (okC c = (isSpB c || nameB c)) := rfl
        have HOK3 := Lib.hid HOK2
        have HDW2 := Lib.hid HDW
        have HC61 : Hid ((c == 61) = decide (c.toNat = 61)) := u8_beq c 61
        have HC58 : Hid ((c == 58) = decide (c.toNat = 58)) := u8_beq c 58
        have HC95 : Hid ((c == 95) = decide (c.toNat = 95)) := u8_beq c 95
        have HC46 : Hid ((c == 46) = decide (c.toNat = 46)) := u8_beq c 46
        obtain ⟨y, hy⟩ : ∃ y, c.toNat = y := ⟨_, rfl⟩
        rw [hy] at hc hcell CSP CLE CDI HC61 HC58 HC95 HC46
        obtain ⟨sb, hsb⟩ : ∃ q, isSpB c = q := ⟨_, rfl⟩
        obtain ⟨lb, hlb⟩ : ∃ q, lettB c = q := ⟨_, rfl⟩
        obtain ⟨db, hdb⟩ : ∃ q, digB c = q := ⟨_, rfl⟩
        rw [hsb] at CSP HOKB
        rw [hlb] at CLE HNB
        rw [hdb] at CDI HNB
        clear hy hsb hlb hdb HOK2 HDW hd htk hmem hgx
        cases sb with
        | true =>
          have HO := Lib.hid ((HOK3.out (by rw [HOKB.out]; rfl)).out)
          clear HC61 HC58 HC95 HC46 CLE CDI HNB HOKB HOK3 HDW2 HD HTK
          go_wp2_with (go_at_call 46; refine CSP.out.mono ?_; rintro e wd ⟨rfl, hwd⟩; obtain rfl := hwd.symm)
          go_roundg gk
          case rel => exact ⟨k + 1, rfl, rfl, by go_num, by omega, by omega, HO.out, rfl⟩
          case measure => omega
        | false =>
          by_cases hsep : y = 61 ∨ y = 58
          · have HSE : Hid ((c == 61 || c == 58) = true) := by
              show _ = _
              rw [HC61.out, HC58.out]
              rcases hsep with h | h <;> simp [h]
            have HNO : Hid (okC c = false) := by
              show _ = _
              cases h : okC c with
              | false => rfl
              | true => rw [ok_nosep h] at HSE; exact absurd HSE.out (by simp)
            obtain ⟨hw1, hw2⟩ := HDW2.out HNO.out
            have HLO : Hid (locS l = some (trimR isWsB (S.take k), (S.drop (k + 1)).dropWhile isSpB)) := by
              show _ = _
              rw [HLS.out]
              unfold locT
              rw [hw1]
              simp only
              rw [if_pos HSE.out, hw2]
            have hsl0 := bslice0 wt (some ⟨g, o, none⟩) n cs k hk hncs
            have hcv := bz_text wt g o cs S k HBS.out (by have := HN.out; omega)
            have CTR := Lib.hid (str_any 53 eg_ws isWsB (S.take k) wt (fun x hx => HAS.out x (List.mem_of_mem_take hx)) (by rw [List.length_take]; omega) ws_pred)
            have hsl1 := bslice wt (some ⟨g, o, none⟩) n cs (k + 1) (by omega)
            rw [show ((k + 1 : Nat) : Int) = (k : Int) + 1 from rfl] at hsl1
            have hBd := HBS.out.drop (k + 1) (by have := HN.out; omega)
            have hdl : (S.drop (k + 1)).length = n - (k + 1) := by rw [List.length_drop, HN.out]
            have CTL := Lib.hid (trimL_any 46 #[] eg_sp isSpB (S.drop (k + 1)) _ _ wt hBd (fun x hx => HAS.out x (List.mem_of_mem_drop hx)) (by omega) (sp_pred wt))
            rw [hdl] at CTL
            have HQO2 : Hid (∀ a c2, Bz wt a c2 ((S.drop (k + 1)).dropWhile isSpB) → Q (.returned (.tuple #[.string (txt (trimR isWsB (S.take k))), .slice a ((S.drop (k + 1)).dropWhile isSpB).length c2, .nilIface])) wt) := fun a c2 h => HQO.out _ _ HLO.out a c2 wt h HBW.out
            generalize (S.drop (k + 1)).dropWhile isSpB = R at *
            generalize trimR isWsB (S.take k) = KK at *
            generalize txt (S.take k) = KT at *
            generalize movA (some ⟨g, o, none⟩) cs (k + 1) = am at *
            clear HC61 HC58 HC95 HC46 CLE CDI HNB HOKB HOK3 HDW2 HD HTK HSE HNO HLO hw1 hw2 hBd hdl
            rcases hsep with rfl | rfl
            all_goals
              go_wp2_with (first
                | (go_at_call 46; refine CSP.out.mono ?_; rintro e wd ⟨rfl, hwd⟩; obtain rfl := hwd.symm)
                | (go_at_call 52; refine CTR.out.mono ?_; rintro e wd ⟨rfl, hwd⟩; obtain rfl := hwd.symm)
                | (go_at_call 45; refine CTL.out.mono ?_; rintro e wd ⟨⟨a3, c3, rfl, hbz3⟩, hwd⟩; obtain rfl := hwd.symm))
              first | exact HQO2.out _ _ hbz3 | (go_ret3; exact HQO2.out _ _ hbz3) | (simp only [Exit.noGoto]; go_ret3; exact HQO2.out _ _ hbz3)
          · have hz61 : ¬ (y : Int) = 61 := by omega
            have hz58 : ¬ (y : Int) = 58 := by omega
            by_cases h95 : y = 95
            · have HO := Lib.hid ((HOK3.out (by rw [HOKB.out, HNB.out, HC95.out]; simp [h95])).out)
              subst h95
              clear HC61 HC58 HC95 HC46 CLE CDI HNB HOKB HOK3 HDW2 HD HTK
              go_wp2_with (go_at_call 46; refine CSP.out.mono ?_; rintro e wd ⟨rfl, hwd⟩; obtain rfl := hwd.symm)
              go_roundg gk
              case rel => exact ⟨k + 1, rfl, rfl, by go_num, by omega, by omega, HO.out, rfl⟩
              case measure => omega
            · have hz95 : ¬ (y : Int) = 95 := by omega
              cases lb with
              | true =>
                have HO := Lib.hid ((HOK3.out (by rw [HOKB.out, HNB.out]; simp)).out)
                clear HC61 HC58 HC95 HC46 CDI HNB HOKB HOK3 HDW2 HD HTK
                go_wp2_with (first | (go_at_call 46; refine CSP.out.mono ?_; rintro e wd ⟨rfl, hwd⟩; obtain rfl := hwd.symm) | (go_at_call 49; refine CLE.out.mono ?_; rintro e wd ⟨rfl, hwd⟩; obtain rfl := hwd.symm))
                go_roundg gk
                case rel => exact ⟨k + 1, rfl, rfl, by go_num, by omega, by omega, HO.out, rfl⟩
                case measure => omega
              | false =>
                cases db with
                | true =>
                  have HO := Lib.hid ((HOK3.out (by rw [HOKB.out, HNB.out]; simp)).out)
                  clear HC61 HC58 HC95 HC46 HNB HOKB HOK3 HDW2 HD HTK
                  go_wp2_with (first | (go_at_call 46; refine CSP.out.mono ?_; rintro e wd ⟨rfl, hwd⟩; obtain rfl := hwd.symm) | (go_at_call 49; refine CLE.out.mono ?_; rintro e wd ⟨rfl, hwd⟩; obtain rfl := hwd.symm) | (go_at_call 50; refine CDI.out.mono ?_; rintro e wd ⟨rfl, hwd⟩; obtain rfl := hwd.symm))
                  go_roundg gk
                  case rel => exact ⟨k + 1, rfl, rfl, by go_num, by omega, by omega, HO.out, rfl⟩
                  case measure => omega
                | false =>
                  by_cases h46 : y = 46
                  · have HO := Lib.hid ((HOK3.out (by rw [HOKB.out, HNB.out, HC46.out]; simp [h46])).out)
                    subst h46
                    clear HC61 HC58 HC95 HC46 HNB HOKB HOK3 HDW2 HD HTK
                    go_wp2_with (first | (go_at_call 46; refine CSP.out.mono ?_; rintro e wd ⟨rfl, hwd⟩; obtain rfl := hwd.symm) | (go_at_call 49; refine CLE.out.mono ?_; rintro e wd ⟨rfl, hwd⟩; obtain rfl := hwd.symm) | (go_at_call 50; refine CDI.out.mono ?_; rintro e wd ⟨rfl, hwd⟩; obtain rfl := hwd.symm))
                    go_roundg gk
                    case rel => exact ⟨k + 1, rfl, rfl, by go_num, by omega, by omega, HO.out, rfl⟩
                    case measure => omega
                  · have hz46 : ((y : Int) == 46) = false := beq_eq_false_iff_ne.2 (by omega)
                    have hNO : okC c = false := by rw [HOKB.out, HNB.out, HC95.out, HC46.out]; simp [h95, h46]
                    obtain ⟨hw1, _⟩ := HDW2.out hNO
                    have HE : Hid (locS l = none) := by
                      show _ = _
                      rw [HLS.out]
                      unfold locT
                      rw [hw1]
                      simp only
                      rw [if_neg]
                      rw [HC61.out, HC58.out]
                      have h1 : ¬ y = 61 := by omega
                      have h2 : ¬ y = 58 := by omega
                      simp [h1, h2]
                    have HB2 := Lib.hid (HBW.out.alloc HBW.out.size (.cells #[.string ⟨#[117, 110, 101, 120, 112, 101, 99, 116, 101, 100, 32, 99, 104, 97, 114, 97, 99, 116, 101, 114, 32, 105, 110, 32, 118, 97, 114, 105, 97, 98, 108, 101, 32, 110, 97, 109, 101]⟩] 99))
                    clear HC61 HC58 HC95 HC46 HNB HOKB HOK3 HDW2 HD HTK hNO hw1
                    go_wp2_with (first | (go_at_call 46; refine CSP.out.mono ?_; rintro e wd ⟨rfl, hwd⟩; obtain rfl := hwd.symm) | (go_at_call 49; refine CLE.out.mono ?_; rintro e wd ⟨rfl, hwd⟩; obtain rfl := hwd.symm) | (go_at_call 50; refine CDI.out.mono ?_; rintro e wd ⟨rfl, hwd⟩; obtain rfl := hwd.symm) | (go_at_call 51; go_in))
                    first | exact HQE.out HE.out _ _ HB2.out | (go_ret3; exact HQE.out HE.out _ _ HB2.out) | (simp only [Exit.noGoto]; go_ret3; exact HQE.out HE.out _ _ HB2.out)
      · obtain rfl : k = n := by omega
        have hall : ∀ x ∈ S, okC x = true := by
          have := HOK.out
          rw [← HN.out, List.take_length] at this
          exact this
        have hdw : S.dropWhile okC = [] := by
          have := (dw_of (p := okC) S [] hall (.inl rfl)).1
          rwa [List.append_nil] at this
        have hSne : S ≠ [] := fun e => by have := HN.out; rw [e] at this; simp at this; omega
        have HLO : Hid (locS l = some ([], S.dropWhile isSpB)) := by
          show _ = _
          rw [HLS.out]
          unfold locT
          rw [hdw]
          simp only
          rw [if_neg hSne]
        have CTR := Lib.hid (str_any 53 eg_ws isWsB [] wt (fun x hx => by simp at hx) (by simp) ws_pred)
        have hsl1 : (Instr.slice 52 (.slice (some ⟨g, o, none⟩) k cs) (some (.int .i64 0)) none none).run Tryd.prog wt = .ok (.slice (some ⟨g, o, none⟩) k cs) wt := by
          have h := bslice wt (some ⟨g, o, none⟩) k cs 0 (Nat.zero_le _)
          have e : movA (some ⟨g, o, none⟩) cs 0 = some ⟨g, o, none⟩ := by unfold movA; split <;> simp [Addr.add_zero']
          rw [e] at h
          exact h
        have CTL := Lib.hid (trimL_any 46 #[] eg_sp isSpB S _ _ wt HBS.out HAS.out (by have := HN.out; omega) (sp_pred wt))
        rw [HN.out] at CTL
        have CTR2 : Hid (Calls Tryd.prog 52 #[.string ⟨#[]⟩, .func (.func 53) #[] #[]] wt fun e w' => e = .returned (.string (txt [])) ∧ w' = wt) := CTR.out
        have HQO2 : Hid (∀ a c2, Bz wt a c2 (S.dropWhile isSpB) → Q (.returned (.tuple #[.string (txt []), .slice a (S.dropWhile isSpB).length c2, .nilIface])) wt) := fun a c2 h => HQO.out _ _ HLO.out a c2 wt h HBW.out
        generalize S.dropWhile isSpB = R at *
        clear HLO hall hdw hSne CTR
        go_wp2_with (first
          | (go_at_call 52; refine CTR2.out.mono ?_; rintro e wd ⟨rfl, hwd⟩; obtain rfl := hwd.symm)
          | (go_at_call 45; refine CTL.out.mono ?_; rintro e wd ⟨⟨a3, c3, rfl, hbz3⟩, hwd⟩; obtain rfl := hwd.symm))
        first | exact HQO2.out _ _ hbz3 | (go_ret3; exact HQO2.out _ _ hbz3) | (simp only [Exit.noGoto]; go_ret3; exact HQO2.out _ _ hbz3)
end Go.Proofs.YtdfhidnhkeapbaaDoor
