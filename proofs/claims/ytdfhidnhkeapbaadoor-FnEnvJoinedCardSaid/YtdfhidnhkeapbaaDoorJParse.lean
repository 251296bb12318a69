/- godotenv.parseBytes, UnmarshalBytes and Unmarshal at texts without dollar signs, quotes and returns. Conditions: such texts; their length; the table unicode.properties. -/
import Derived.Test.YtdfhidnhkeapbaaDoorJLoc2
import Derived.Test.YtdfhidnhkeapbaaDoorJVal2
import Derived.Test.YtdfhidnhkeapbaaDoorEWr
namespace Go.Proofs.YtdfhidnhkeapbaaDoor
open Go.RowKit U8
open Go.Lib hiding intOf

theorem loc_suf {r k l : List UInt8} (h : locS r = some (k, l)) : l <:+ r := by
  unfold locS at h
  obtain ⟨q, hq, _⟩ := loc_split r
  obtain ⟨S, hS⟩ : ∃ S, expS (r.dropWhile isSpB) = S := ⟨_, rfl⟩
  rw [hS] at h hq
  have hSr : S <:+ r := ⟨q, hq.symm⟩
  unfold locT at h
  have hds := List.dropWhile_suffix okC (l := S)
  cases hd : S.dropWhile okC with
  | nil =>
    rw [hd] at h
    simp only at h
    split at h
    · cases h
    · cases h
      exact (List.dropWhile_suffix isSpB).trans hSr
  | cons c t =>
    rw [hd] at h hds
    simp only at h
    split at h
    · cases h
      exact (List.dropWhile_suffix isSpB).trans ((List.suffix_cons _ _).trans (hds.trans hSr))
    · cases h
theorem rep_none {l : List UInt8} (h : ∀ x ∈ l, GoodB x) : repAll l [13, 10] [10] = l := by
  refine repAll_none _ _ _ ?_
  induction l with
  | nil => rfl
  | cons c t ih =>
    have hc := (h c (List.mem_cons_self ..)).2.2.2.2
    have e : [13, 10].isPrefixOf (c :: t) = false := by
      show ((13 : UInt8) == c && _) = false
      have : ((13 : UInt8) == c) = false := beq_eq_false_iff_ne.2 fun e => hc (by rw [← e]; rfl)
      rw [this]; rfl
    rw [idxZ_next _ _ _ e, ih fun x hx => h x (List.mem_cons_of_mem _ hx)]
    rfl
theorem bz_bytes (W : World) (s : List UInt8) : Bz (bytesWorld W 5 (txt s)) (some ⟨W.heap.size, 0, none⟩) (grownCap W s.length 0 5) s := by
  refine ⟨grownCap_ge _ _ _ _, fun j x hj => ⟨W.heap.size, 0, rfl, ?_⟩⟩
  have hjl := (List.getElem?_eq_some_iff.1 hj).1
  rw [Nat.zero_add, bytesWorld_cell W 5 (txt s) j (by rw [txt_size]; exact hjl), txt_list, List.getD_eq_getElem?_getD, hj]
  rfl
theorem Bz.map {W W' : World} {ao : Option Addr} {cap m : Nat} {l : List UInt8} {es : Es} (h : Bz W ao cap l) (hm : MB m es W) (hk : ∀ r, r ≠ m → W'.heap[r]? = W.heap[r]?) : Bz W' ao cap l := by
  refine ⟨h.1, fun j x hj => ?_⟩
  obtain ⟨g, o, e, hc⟩ := h.2 j x hj
  obtain ⟨arr, cl, h1, _⟩ := hm
  have hne : g ≠ m := by
    rintro rfl
    unfold World.cell? at hc
    rw [h1] at hc
    simp at hc
  refine ⟨g, o, e, ?_⟩
  rw [← hc]
  unfold World.cell?
  rw [hk g hne]
theorem Pt.map {W W' : World} {m : Nat} {es : Es} (h : Pt W) (hm : MB m es W) (hk : ∀ r, r ≠ m → W'.heap[r]? = W.heap[r]?) : Pt W' := by
  have hg : Tryd.prog.globalNamed "unicode.properties" = some 0 := by kernel_rfl
  have hne : 0 ≠ m := by
    intro e
    have h0 := h.cell hg 0 (by rw [Lib.propertiesTab_length]; omega)
    obtain ⟨arr, cl, h1, _⟩ := hm
    rw [← e] at h1
    unfold World.cell? at h0
    rw [h1] at h0
    simp at h0
  unfold Pt Lib.TabIs World.var? at h ⊢
  rw [hg] at h ⊢
  simp only [Option.bind_some] at h ⊢
  rw [hk 0 hne]
  exact h
/-- How a text of names with values is read. -/
def ParP (R : Option KVs) (B m : Nat) (w : World) (e : Ending) (w' : World) : Prop :=
  ((R = none ∧ ∃ ev, e = .returned (.iface 97 (.pointer (some ⟨ev, 0, none⟩)))) ∨ ∃ ps, R = some ps ∧ e = .returned .nilIface ∧ MB m (kvV (mapOf ps)) w') ∧ Below B w w'
theorem mapOf_snoc (d : KVs) (p : List UInt8 × List UInt8) : mapOf (d ++ [p]) = upd (mapOf d) p := by unfold mapOf; rw [List.foldl_append]; rfl
set_option maxHeartbeats 6400000 in
set_option maxRecDepth 100000 in
theorem par_any (l : List UInt8) (g cap B m : Nat) (w : World) (hB : Bz w (some ⟨g, 0, none⟩) cap l) (hg : ∀ x ∈ l, GoodB x) (hl : l.length ≤ 1000000) (hM : MB m (kvV []) w) (hBm : B ≤ m) (hT : Pt w) :
    Calls Tryd.prog 28 #[.slice (some ⟨g, 0, none⟩) l.length cap, .map (some m)] w (ParP (pairsS l) B m w) := by
  have hcv0 := bz_text w g 0 cap l l.length hB (Nat.le_refl _)
  rw [List.take_length] at hcv0
  have CR := Lib.hid (rep_any l [13, 10] [10] w (by simp) (by simp) (by simp) (by omega))
  rw [rep_none hg] at CR
  have CR2 : Hid (Calls Tryd.prog 35 #[.string (txt l), .string ⟨#[13, 10]⟩, .string ⟨#[10]⟩] w fun e w' => e = .returned (.string (txt l)) ∧ Below w.heap.size w w') := CR.out
  obtain ⟨R, hR⟩ : ∃ R, pairsS l = R := ⟨_, rfl⟩
  have HQE : Hid (R = none → ∀ ev W, Below B w W → ParP R B m w (.returned (.iface 97 (.pointer (some ⟨ev, 0, none⟩)))) W) := fun h ev W hb => ⟨.inl ⟨h, ev, rfl⟩, hb⟩
  have HQO : Hid (∀ ps W, R = some ps → MB m (kvV (mapOf ps)) W → Below B w W → ParP R B m w (.returned .nilIface) W) := fun ps W h h2 hb => ⟨.inr ⟨ps, h, rfl, h2⟩, hb⟩
  obtain ⟨Q, hQ⟩ : ∃ Q, ParP R B m w = Q := ⟨_, rfl⟩
  rw [hR, hQ]
  rw [hQ] at HQE HQO
  have HR := Lib.hid hR.symm
  have HG := Lib.hid hg
  have HM := Lib.hid hM
  have HT := Lib.hid hT
  have hml := hM.lt
  clear hQ hR CR hg hM hT hB
  go_enter Tryd.func28, Tryd.ntmps28
  go_wp2_with fail
  refine CR2.out.mono ?_
  rintro e w1 ⟨rfl, hb1⟩
  have hcv1 := run_text_bytes w1 (txt l)
  rw [txt_size] at hcv1
  have HBZ := Lib.hid (bz_bytes w1 l)
  have hbw : Below w.heap.size w (bytesWorld w1 5 (txt l)) := bytesWorld_below hb1 hb1.size _ _
  have HBW := Lib.hid (hbw.mono (show B ≤ w.heap.size by omega))
  have HM1 := Lib.hid (HM.out.below hbw)
  have HT1 := Lib.hid (HT.out.below hbw)
  clear hb1 hbw HM HT CR2
  obtain ⟨w2, hw2⟩ : ∃ W, bytesWorld w1 5 (txt l) = W := ⟨_, rfl⟩
  rw [hw2] at hcv1 HBZ HBW HM1 HT1
  obtain ⟨c0, hc0⟩ : ∃ c, grownCap w1 l.length 0 5 = c := ⟨_, rfl⟩
  rw [hc0] at hcv1 HBZ
  clear hw2 hc0
  go_wp2
  go_loopg [5] (l.length + 1) (fun gk v5 wr => ∃ (a : Option Addr) (c : Nat) (s : List UInt8) (d : KVs), v5 = .slice a s.length c ∧ s.length < gk ∧ s.length ≤ l.length ∧ Hid (Bz wr a c s) ∧ Hid (∀ x ∈ s, GoodB x) ∧ Hid (R = (pairsS s).map (d ++ ·)) ∧ Hid (MB m (kvV (mapOf d)) wr) ∧ Hid (Below B w wr) ∧ Hid (Pt wr))
  case atStart => exact ⟨_, _, l, [], rfl, by omega, Nat.le_refl _, HBZ.out, HG.out, (by show _ = _; rw [HR.out]; cases pairsS l <;> rfl), HM1.out, HBW.out, HT1.out⟩
  case round =>
    clear HBZ HM1 HBW HT1 HR
    obtain ⟨a, c, s, d, rfl, hgk, hsl, HBZ, HGS, HR, HMD, HBW, HTT⟩ := hrel
    obtain ⟨gk, rfl⟩ : ∃ x, gk = x + 1 := ⟨gk - 1, by omega⟩
    have CG := Lib.hid (gss_any (s.length + 1) s a c wr (by omega) HBZ.out (good_asc HGS.out) (by omega))
    have hmr := HMD.out.lt
    have hBs : B ≤ wr.heap.size := by omega
    cases hs : startS s with
    | none =>
      have CG2 : Hid (Calls Tryd.prog 36 #[.slice a s.length c] wr fun e w' => e = .returned (.slice none 0 0) ∧ Below wr.heap.size wr w') := by
        refine CG.out.mono ?_
        rintro e w' ⟨⟨a2, c2, rfl, _, h3⟩, hb⟩
        obtain ⟨rfl, rfl⟩ := h3 hs
        rw [hs]
        exact ⟨rfl, hb⟩
      have HRF : Hid (R = some d) := by
        show _ = _
        rw [HR.out, pairsS_none hs]
        show some (d ++ []) = _
        rw [List.append_nil]
      clear CG HR hs
      go_wp2_with fail
      refine CG2.out.mono ?_
      rintro e w3 ⟨rfl, hb3⟩
      have HFIN := Lib.hid (HQO.out d w3 HRF.out (HMD.out.below hb3) (HBW.out.trans (hb3.mono hBs)))
      have heq : (binOp .eql 52 (.slice none 0 0) (.slice none 0 0)).run Tryd.prog w3 = .ok (.bool true) w3 := by kernel_rfl
      go_wp2
      first | exact HFIN.out | (go_ret; exact HFIN.out)
    | some r =>
      obtain ⟨⟨rc, rt, hrc, hrw, hr35⟩, hrs⟩ := start_is _ s (Nat.lt_succ_self _) r hs
      have hrl := hrs.length_le
      have hr0 : r ≠ [] := by rw [hrc]; simp
      have hgr : ∀ x ∈ r, GoodB x := fun x hx => HGS.out x (hrs.subset hx)
      have hdr : r.dropWhile isSpB = r := by
        rw [hrc]
        have : isSpB rc = false := by
          cases h : isSpB rc with
          | false => rfl
          | true => unfold isWsB at hrw; rw [h] at hrw; cases hrw
        simp [this]
      have CG2 : Hid (Calls Tryd.prog 36 #[.slice a s.length c] wr fun e w' => (∃ g2 o2 c2, e = .returned (.slice (some ⟨g2, o2, none⟩) r.length c2) ∧ Bz w' (some ⟨g2, o2, none⟩) c2 r) ∧ Below wr.heap.size wr w') := by
        refine CG.out.mono ?_
        rintro e w' ⟨⟨a2, c2, rfl, h2, _⟩, hb⟩
        rw [hs] at h2 ⊢
        have h2' : Bz w' a2 c2 r := h2
        obtain ⟨g2, o2, e2, _⟩ := h2'.2 0 rc (by rw [hrc]; rfl)
        subst e2
        exact ⟨⟨g2, o2, c2, rfl, h2'⟩, hb⟩
      have HDR := Lib.hid hdr
      have HGR := Lib.hid hgr
      have HR0 := Lib.hid hr0
      have HSS := Lib.hid hs
      clear CG hs hrc hrw hr35 hrs hdr hgr hr0
      go_wp2_with fail
      refine CG2.out.mono ?_
      rintro e w3 ⟨⟨g2, o2, c2, rfl, hbz2⟩, hb3⟩
      have CL := Lib.hid (loc_any r _ c2 w3 hbz2 (good_asc HGR.out) (by omega) HR0.out HDR.out (HTT.out.below hb3))
      have heq : (binOp .eql 52 (.slice (some ⟨g2, o2, none⟩) r.length c2) (.slice none 0 0)).run Tryd.prog w3 = .ok (.bool false) w3 := by kernel_rfl
      have HM3 := Lib.hid (HMD.out.below hb3)
      have HB3 := Lib.hid (HBW.out.trans (hb3.mono hBs))
      have HT3 := Lib.hid (HTT.out.below hb3)
      have hm3 := HM3.out.lt
      have hs3 : B ≤ w3.heap.size := by omega
      clear hb3 hbz2 CG2 HMD HBW HTT HBZ
      go_wp2_with fail
      refine CL.out.mono ?_
      rintro e w4 ⟨⟨hn, ev, rfl⟩ | ⟨k, lf, hk, a4, c4, rfl, hbz4⟩, hb4⟩
      · have HRN : Hid (R = none) := by
          show _ = _
          rw [HR.out, pairsS_err HSS.out hn]; rfl
        have hne : (binOp .neq 40 (.iface 97 (.pointer (some ⟨ev, 0, none⟩))) .nilIface).run Tryd.prog w4 = .ok (.bool true) w4 := by kernel_rfl
        have HFIN := Lib.hid (HQE.out HRN.out ev w4 (HB3.out.trans (hb4.mono hs3)))
        clear hn
        go_wp2
        first | exact HFIN.out | (go_ret; exact HFIN.out)
      · have hlf : ∀ x ∈ lf, GoodB x := fun x hx => HGR.out x ((loc_suf hk).subset hx)
        have hll := (loc_suf hk).length_le
        have hlen := (loc_len hk).1
        have CV := Lib.hid (val_any lf a4 c4 m w4 hbz4 hlf (by omega))
        have HRS : Hid (R = (pairsS (lf.dropWhile notNl)).map ((d ++ [(k, valT lf)]) ++ ·)) := by
          show _ = _
          rw [HR.out, pairsS_some HSS.out hk, Option.map_map]
          congr 1
          funext x
          simp
        have hne : (binOp .neq 40 .nilIface .nilIface).run Tryd.prog w4 = .ok (.bool false) w4 := by kernel_rfl
        have HM4 := Lib.hid (HM3.out.below hb4)
        have HB4 := Lib.hid (HB3.out.trans (hb4.mono hs3))
        have HT4 := Lib.hid (HT3.out.below hb4)
        have hs4 : B ≤ w4.heap.size := by have := HM4.out.lt; omega
        have HLF := Lib.hid hlf
        clear hb4 hbz4 hk CL HM3 HB3 HT3 hlf
        go_wp2_with fail
        refine CV.out.mono ?_
        rintro e w5 ⟨⟨a5, c5, rfl, hbz5⟩, hb5⟩
        have HM5 := Lib.hid (HM4.out.below hb5)
        have HB5 := Lib.hid (HB4.out.trans (hb5.mono hs4))
        have HT5 := Lib.hid (HT4.out.below hb5)
        have hne5 : (binOp .neq 40 .nilIface .nilIface).run Tryd.prog w5 = .ok (.bool false) w5 := by kernel_rfl
        obtain ⟨w6, hmu, hM6, hk6, hz6, hb6⟩ := put_mb (P := Tryd.prog) (w := w5) 38 9 9 m (mapOf d) (k, valT lf) B hBm Tryd.underlying38 Tryd.underlying9 HM5.out (foldl_keys d [] List.nodup_nil)
        rw [← mapOf_snoc] at hM6
        have HBZ6 := Lib.hid (hbz5.map HM5.out hk6)
        have HM6 := Lib.hid hM6
        have HB6 : Hid (Below B w w6) := HB5.out.trans hb6
        have HT6 := Lib.hid (HT5.out.map HM5.out hk6)
        have hmu2 : (Instr.mapUpdate 38 (.map (some m)) (.string (txt k)) (.string (txt (valT lf)))).run Tryd.prog w5 = .ok () w6 := hmu
        have HGL : Hid (∀ x ∈ lf.dropWhile notNl, GoodB x) := fun x hx => HLF.out x (dw_mem hx)
        clear hb5 hbz5 hmu hM6 hk6 hz6 hb6 CV HM4 HB4 HT4 HM5 HB5 HT5
        go_wp2
        go_roundg gk
        case rel => exact ⟨a5, c5, lf.dropWhile notNl, d ++ [(k, valT lf)], rfl, by omega, by omega, HBZ6.out, HGL.out, HRS.out, HM6.out, HB6.out, HT6.out⟩
        case measure => omega
end Go.Proofs.YtdfhidnhkeapbaaDoor
