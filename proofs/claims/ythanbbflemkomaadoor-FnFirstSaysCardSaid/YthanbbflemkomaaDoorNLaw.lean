/- The law FnFirstSays: the documentation's answers of cases of runes, of ASCII or letters, and of words. -/
import Derived.Test.YthanbbflemkomaaDoorNSws
import Derived.Lib.LaidU8
import Derived.Lib.LaidRTab
import Derived.Lib.LaidCase
namespace Go.Proofs.YthanbbflemkomaaDoor
open Go.RowKit U8 Go.Shelf
open Go.Lib hiding intOf

theorem tabIs_of_reads3 {P : Program} {W : World} {name : String} {k : IntKind} {zs : List Int} {g : Nat} {t e : TypeId} {n : Nat}
    (hg : P.globalNamed name = some g) (hty : (P.globals[g]?).map (·.type) = some t) (ht : P.underlying t = some (.array n e)) (he : P.underlying e = some (.int k)) (hce : P.cellsOf e = 1) (hct : P.cellsOf t = n)
    (h : VarReads P W name (tabData k zs)) : TabIs P W name k zs := by
  obtain ⟨g', t', cs, fuel, p, hg', ht', hvar, hd⟩ := h
  obtain rfl := Option.some.inj (hg.symm.trans hg')
  obtain rfl := Option.some.inj (hty.symm.trans ht')
  unfold TabIs
  rw [hvar, ← cells_of_tab ht he hce hct hd]
theorem ft_of {W : World} (h1 : VarReads Tryd.prog W "unicode/utf8.first" firstData) (h2 : VarReads Tryd.prog W "unicode/utf8.acceptRanges" acceptData)
    (h3 : VarReads Tryd.prog W "unicode.properties" (tabData .u8 propertiesTab)) (h4 : VarReads Tryd.prog W "unicode.Upper" (rtabData upperT)) (h5 : VarReads Tryd.prog W "unicode.Lower" (rtabData lowerT))
    (h6 : VarReads Tryd.prog W "unicode.Letter" (rtabData letterT)) (h7 : VarReads Tryd.prog W "unicode.Title" (rtabData titleT)) (h8 : VarReads Tryd.prog W "unicode.CaseRanges" caseData) : Ft W :=
  have X : RExtra Tryd.prog Tryd.lays261_ren := ⟨by kernel_rfl, by kernel_rfl, by kernel_rfl, by kernel_rfl, by kernel_rfl, by kernel_rfl, by kernel_rfl, by kernel_rfl⟩
  ⟨utf8Tabs_of_reads { Tryd.lays260 with } ⟨by kernel_rfl, by kernel_rfl, by kernel_rfl, by kernel_rfl, by kernel_rfl, by kernel_rfl, by kernel_rfl⟩ h1 h2,
   tabIs_of_reads3 (g := 0) (t := 67) (e := 5) (by kernel_rfl) (by kernel_rfl) Tryd.underlying67 Tryd.underlying5 (by kernel_rfl) (by kernel_rfl) h3,
   rvar_of_reads { Tryd.lays261 with } X (by kernel_rfl) (by kernel_rfl) h4,
   rvar_of_reads { Tryd.lays261 with } X (by kernel_rfl) (by kernel_rfl) h5,
   rvar_of_reads { Tryd.lays261 with } X (by kernel_rfl) (by kernel_rfl) h6,
   rvar_of_reads { Tryd.lays261 with } X (by kernel_rfl) (by kernel_rfl) h7,
   caseVar_of_reads { Tryd.lays203 with } Tryd.lays203.t206 ⟨by kernel_rfl, by kernel_rfl, by kernel_rfl, by kernel_rfl, by kernel_rfl, by kernel_rfl⟩ h8⟩

theorem iUp_any (l : List UInt8) (w : World) (hl : l.length ≤ 1000000) (hT : Ft w) :
    Calls Tryd.prog 23 #[.string (txt l)] w fun e w' => e = .returned (.string (txt (fU toUpperU l))) ∧ Below w.heap.size w w' := by
  have C := Lib.hid fun W (h : Ft W) => firstUp_any l W hl h
  go_enter Tryd.func23, Tryd.ntmps23
  go_wp2_with (go_at_call 50; refine (C.out _ hT).mono ?_; rintro e w1 ⟨rfl, hb1⟩)
  go_ret
  exact ⟨rfl, hb1⟩
theorem iLo_any (l : List UInt8) (w : World) (hl : l.length ≤ 1000000) (hT : Ft w) :
    Calls Tryd.prog 29 #[.string (txt l)] w fun e w' => e = .returned (.string (txt (fU toLowerU l))) ∧ Below w.heap.size w w' := by
  have C := Lib.hid fun W (h : Ft W) => firstLo_any l W hl h
  go_enter Tryd.func29, Tryd.ntmps29
  go_wp2_with (go_at_call 56; refine (C.out _ hT).mono ?_; rintro e w1 ⟨rfl, hb1⟩)
  go_ret
  exact ⟨rfl, hb1⟩
theorem iSw_any (l : List UInt8) (w : World) (hl : l.length ≤ 1000000) (hT : Ft w) :
    Calls Tryd.prog 30 #[.string (txt l)] w fun e w' => e = .returned (.string (txt (swU l))) ∧ Below w.heap.size w w' := by
  have C := Lib.hid fun W (h : Ft W) => xswap_any l W hl h
  go_enter Tryd.func30, Tryd.ntmps30
  go_wp2_with (go_at_call 57; refine (C.out _ hT).mono ?_; rintro e w1 ⟨rfl, hb1⟩)
  go_ret
  exact ⟨rfl, hb1⟩
theorem iWs_any (l : List UInt8) (w : World) (ha : ∀ b ∈ l, b.toNat < 128) (hl : l.length ≤ 1000000) (hT : Ft w) :
    Calls Tryd.prog 32 #[.string (txt l)] w fun e w' => ∃ ao cap, e = .returned (.slice ao (ws none (tn l)).length cap) ∧ w'.ownsRow w.heap.size 9 1 (.slice ao (ws none (tn l)).length cap) (ws none (tn l)).length (strs (ws none (tn l))) ∧ Below w.heap.size w w' := by
  have hasc : asc (tn l) := fun r hr => by obtain ⟨b, hb, rfl⟩ := List.mem_map.1 hr; exact ha b hb
  have c : ∀ W, Ft W → _ := fun W (h : Ft W) => wsplit_any (tn l) W hasc (by unfold tn; rw [List.length_map]; exact hl) h.u8 h.pr
  rw [enc_tn ha] at c
  have C := Lib.hid c
  clear c
  go_enter Tryd.func32, Tryd.ntmps32
  go_wp2_with (go_at_call 58; refine (C.out _ hT).mono ?_; rintro e w' ⟨ao, cap, rfl, hown, hb⟩)
  go_ret
  exact ⟨ao, cap, rfl, hown, hb⟩
theorem sUp_any (l : List UInt8) (w : World) (hl : l.length ≤ 900000) (hT : Ft w) :
    Calls Tryd.prog 25 #[.string (txt l)] w fun e w' => e = .returned (.tuple #[.string (txt (fsR true false l).1), .int .i64 (fsR true false l).2]) ∧ Below w.heap.size w w' := by
  have c := fun W (h : Ft W) => sfirst_any l true false W hl h
  generalize fsR true false l = P at *
  have C := Lib.hid c
  clear c
  go_enter Tryd.func25, Tryd.ntmps25
  go_wp2_with (go_at_call 52; refine (C.out _ hT).mono ?_; rintro e w1 ⟨rfl, hb1⟩)
  go_ret2
  exact ⟨rfl, hb1⟩
theorem sLo_any (l : List UInt8) (w : World) (hl : l.length ≤ 900000) (hT : Ft w) :
    Calls Tryd.prog 26 #[.string (txt l)] w fun e w' => e = .returned (.tuple #[.string (txt (fsR false true l).1), .int .i64 (fsR false true l).2]) ∧ Below w.heap.size w w' := by
  have c := fun W (h : Ft W) => sfirst_any l false true W hl h
  generalize fsR false true l = P at *
  have C := Lib.hid c
  clear c
  go_enter Tryd.func26, Tryd.ntmps26
  go_wp2_with (go_at_call 52; refine (C.out _ hT).mono ?_; rintro e w1 ⟨rfl, hb1⟩)
  go_ret2
  exact ⟨rfl, hb1⟩
theorem told_p (a : List UInt8) (p : List UInt8 × Int) (w : World) (h : (p.2 = 1 ∧ p.1 = a) ∨ p.2 = 2) :
    Calls Tryd.prog 22 #[.string (txt a), .string (txt p.1), .int .i64 p.2] w fun e w' => e = .returned (.bool true) ∧ w' = w := by
  rcases h with ⟨h1, h2⟩ | h1
  · rw [h1, h2]; exact told_yes _ w
  · rw [h1]; exact told_open _ _ w
theorem fs_up (l : List UInt8) : ((fsR true false l).2 = 1 ∧ (fsR true false l).1 = fU toUpperU l) ∨ (fsR true false l).2 = 2 := by
  unfold fsR
  by_cases hv : validD l = true
  · rw [if_pos hv]
    obtain ⟨rs, hs, he⟩ := text_chars (s := txt l) (by rw [txt_list]; exact hv)
    have hl2 : l = enc rs := by
      have := congrArg (fun s : ByteArray => s.data.toList) he
      simpa [txt_list] using this
    subst hl2
    rw [rns_enc rs hs]
    cases rs with
    | nil => exact .inl ⟨rfl, rfl⟩
    | cons r rs =>
      cases hc : cs true false (r : Int) with
      | none =>
        have h1 : csR true false (r : Int) = (0, 2) := by unfold csR; rw [hc]
        simp only [h1]
        exact .inr rfl
      | some z =>
        have h1 : csR true false (r : Int) = (z, 1) := by unfold csR; rw [hc]
        simp only [h1]
        exact .inl ⟨rfl, (cs_up hs hc).symm⟩
  · rw [if_neg hv]; exact .inr rfl
theorem fs_lo (l : List UInt8) : ((fsR false true l).2 = 1 ∧ (fsR false true l).1 = fU toLowerU l) ∨ (fsR false true l).2 = 2 := by
  unfold fsR
  by_cases hv : validD l = true
  · rw [if_pos hv]
    obtain ⟨rs, hs, he⟩ := text_chars (s := txt l) (by rw [txt_list]; exact hv)
    have hl2 : l = enc rs := by
      have := congrArg (fun s : ByteArray => s.data.toList) he
      simpa [txt_list] using this
    subst hl2
    rw [rns_enc rs hs]
    cases rs with
    | nil => exact .inl ⟨rfl, rfl⟩
    | cons r rs =>
      cases hc : cs false true (r : Int) with
      | none =>
        have h1 : csR false true (r : Int) = (0, 2) := by unfold csR; rw [hc]
        simp only [h1]
        exact .inr rfl
      | some z =>
        have h1 : csR false true (r : Int) = (z, 1) := by unfold csR; rw [hc]
        simp only [h1]
        exact .inl ⟨rfl, (cs_lo hs hc).symm⟩
  · rw [if_neg hv]; exact .inr rfl
theorem ss_sw (l : List UInt8) : ((ssR l).2 = 1 ∧ (ssR l).1 = swU l) ∨ (ssR l).2 = 2 := by
  have h : (ssR l).2 = 1 ∨ (ssR l).2 = 2 := by
    unfold ssR
    split
    · exact finS_two _ _
    · exact .inr rfl
  rcases h with h | h
  · exact .inl ⟨h, ssR_sw l h⟩
  · exact .inr h
theorem up_ex (w : World) (hT : Ft w) : Calls Tryd.prog 23 #[.string ⟨#[195, 164]⟩] w fun e w' => e = .returned (.string ⟨#[195, 132]⟩) ∧ Below w.heap.size w w' := by
  have h := iUp_any [195, 164] w (by decide) hT
  rw [show fU toUpperU [195, 164] = [195, 132] by decide +kernel] at h
  exact h
theorem letd_is (l : List UInt8) (b : Bool) (w : World) (hb : ((rns l).all fun (r : Nat) => !(decide (128 ≤ r) && !isLetterU (r : Int))) = b) (hT : Ft w) :
    Calls Tryd.prog 24 #[.string (txt l)] w fun e w' => e = .returned (.bool b) ∧ Below w.heap.size w w' := hb ▸ lettered_any l w hT

set_option maxHeartbeats 3200000 in
set_option maxRecDepth 100000 in
theorem law_firstSays (s : ByteArray) (w : World) (hsz : s.size ≤ 140737488351232) (hT : Ft w) :
    Calls Tryd.prog 5 #[.string s] w fun e w' => e = .returned (.bool true) ∧ Below w.heap.size w w' := by
  by_cases hbig : 2147483647 < s.size
  · go_enter Tryd.func5, Tryd.ntmps5
    go_wp2
    go_ret
    exact ⟨rfl, Below.refl _ _⟩
  have hle : s.size ≤ 2147483647 := by omega
  clear hbig hsz
  have C1 := Lib.hid fun W (h : Ft W) => up_ex W h
  have HT := Lib.hid hT
  clear hT
  cases hf : decide (1 + s.size ≤ 400) with
  | false =>
    have cF := Lib.hid fun W => few1 s false W hle hf
    clear hf
    go_enter Tryd.func5, Tryd.ntmps5
    go_wp2_with fail
    refine (C1.out _ HT.out).mono ?_
    rintro e w1 ⟨rfl, hb1⟩
    have HB1 := Lib.hid hb1
    clear hb1
    go_wp2_with fail
    refine (cF.out _).mono ?_
    rintro e w2 ⟨rfl, hb2⟩
    have HB2 := Lib.hid (chain HB1.out hb2)
    clear hb2
    go_wp2
    go_ret
    exact ⟨rfl, HB2.out⟩
  | true =>
  have cF := Lib.hid fun W => few1 s true W hle hf
  obtain ⟨l, rfl⟩ : ∃ l, s = txt l := ⟨s.data.toList, (list_txt s).symm⟩
  have hl : l.length ≤ 400 := by rw [decide_eq_true_eq, txt_size] at hf; omega
  clear hf
  obtain ⟨B, hB⟩ : ∃ B, ((rns l).all fun (r : Nat) => !(decide (128 ≤ r) && !isLetterU (r : Int))) = B := ⟨_, rfl⟩
  have CL := Lib.hid fun W (h : Ft W) => letd_is l B W hB h
  clear hB
  cases B with
  | false =>
    go_enter Tryd.func5, Tryd.ntmps5
    go_wp2_with fail
    refine (C1.out _ HT.out).mono ?_
    rintro e w1 ⟨rfl, hb1⟩
    have HB1 := Lib.hid hb1
    clear hb1
    go_wp2_with fail
    refine (cF.out _).mono ?_
    rintro e w2 ⟨rfl, hb2⟩
    have HB2 := Lib.hid (chain HB1.out hb2)
    clear hb2
    go_wp2_with fail
    refine (CL.out _ (HT.out.below HB2.out)).mono ?_
    rintro e w3 ⟨rfl, hb3⟩
    have HB3 := Lib.hid (chain HB2.out hb3)
    clear hb3
    go_wp2
    go_ret
    exact ⟨rfl, HB3.out⟩
  | true =>
  have sA := fun W (k : Ft W) => sUp_any l W (by omega) k
  have sB := fun W (k : Ft W) => sLo_any l W (by omega) k
  have sC := fun W (k : Ft W) => sswap_any l W (by omega) k
  have SD := Lib.hid fun W => swords_any l W (by omega)
  have iA := fun W (k : Ft W) => iUp_any l W (by omega) k
  have iB := fun W (k : Ft W) => iLo_any l W (by omega) k
  have iC := fun W (k : Ft W) => iSw_any l W (by omega) k
  have tA := fun W => told_p (fU toUpperU l) (fsR true false l) W (fs_up l)
  have tB := fun W => told_p (fU toLowerU l) (fsR false true l) W (fs_lo l)
  have tC := fun W => told_p (swU l) (ssR l) W (ss_sw l)
  generalize fU toUpperU l = A at *
  generalize fU toLowerU l = B at *
  generalize swU l = C at *
  generalize (fsR true false l).1 = A1 at *
  generalize (fsR true false l).2 = A2 at *
  generalize (fsR false true l).1 = B1 at *
  generalize (fsR false true l).2 = B2 at *
  generalize (ssR l).1 = C1x at *
  generalize (ssR l).2 = C2x at *
  have SA := Lib.hid sA
  have SB := Lib.hid sB
  have SC := Lib.hid sC
  have IA := Lib.hid iA
  have IB := Lib.hid iB
  have IC := Lib.hid iC
  have TA := Lib.hid tA
  have TB := Lib.hid tB
  have TC := Lib.hid tC
  clear sA sB sC iA iB iC tA tB tC
  go_enter Tryd.func5, Tryd.ntmps5
  go_wp2_with fail
  refine (C1.out _ HT.out).mono ?_
  rintro e w1 ⟨rfl, hb1⟩
  have HB1 := Lib.hid hb1
  clear hb1
  go_wp2_with fail
  refine (cF.out _).mono ?_
  rintro e w2 ⟨rfl, hb2⟩
  have HB2 := Lib.hid (chain HB1.out hb2)
  clear hb2
  go_wp2_with fail
  refine (CL.out _ (HT.out.below HB2.out)).mono ?_
  rintro e w3 ⟨rfl, hb3⟩
  have HB3 := Lib.hid (chain HB2.out hb3)
  clear hb3
  go_wp2_with fail
  refine (SA.out _ (HT.out.below HB3.out)).mono ?_
  rintro e w4 ⟨rfl, hb4⟩
  have HB4 := Lib.hid (chain HB3.out hb4)
  clear hb4
  go_wp2_with fail
  refine (SB.out _ (HT.out.below HB4.out)).mono ?_
  rintro e w5 ⟨rfl, hb5⟩
  have HB5 := Lib.hid (chain HB4.out hb5)
  clear hb5
  go_wp2_with fail
  refine (SC.out _ (HT.out.below HB5.out)).mono ?_
  rintro e w6 ⟨rfl, hb6⟩
  have HB6 := Lib.hid (chain HB5.out hb6)
  clear hb6
  go_wp2_with fail
  refine (SD.out _).mono ?_
  rintro e w7 ⟨hb7, hws⟩
  have HB7 := Lib.hid (chain HB6.out hb7)
  clear hb7
  rcases hws with ⟨_, rfl⟩ | ⟨ha, ao, cap, he, hown⟩
  · go_wp2_with fail
    refine (IA.out _ (HT.out.below HB7.out)).mono ?_
    rintro e w8 ⟨rfl, hb8⟩
    have HB8 := Lib.hid (chain HB7.out hb8)
    clear hb8
    go_wp2_with fail
    refine (TA.out _).mono ?_
    rintro e wx ⟨rfl, hwx⟩
    obtain rfl := hwx.symm
    go_wp2_with fail
    refine (IB.out _ (HT.out.below HB8.out)).mono ?_
    rintro e w9 ⟨rfl, hb9⟩
    have HB9 := Lib.hid (chain HB8.out hb9)
    clear hb9
    go_wp2_with fail
    refine (TB.out _).mono ?_
    rintro e wx ⟨rfl, hwx⟩
    obtain rfl := hwx.symm
    go_wp2_with fail
    refine (IC.out _ (HT.out.below HB9.out)).mono ?_
    rintro e w10 ⟨rfl, hb10⟩
    have HB10 := Lib.hid (chain HB9.out hb10)
    clear hb10
    go_wp2_with fail
    refine (TC.out _).mono ?_
    rintro e wx ⟨rfl, hwx⟩
    obtain rfl := hwx.symm
    go_wp2
    go_ret
    exact ⟨rfl, HB10.out⟩
  · have IW := fun W (k : Ft W) => iWs_any l W ha (by omega) k
    have hwl : (ws none (tn l)).length ≤ 1000000 := by
      have h : ∀ (r : List Nat) (a : Option (List Nat)), (ws a r).length ≤ r.length + 1 := by
        intro r
        induction r with
        | nil => intro a; cases a <;> simp [ws]
        | cons x r ih =>
          intro a
          cases a with
          | none =>
            unfold ws
            split
            · have := ih (some [x]); simp; omega
            · have := ih none; simp; omega
          | some a =>
            unfold ws
            split
            · have := ih (some (a ++ [x])); simp; omega
            · have := ih none; simp; omega
      have := h (tn l) none
      unfold tn at this
      rw [List.length_map] at this
      unfold tn
      omega
    have EQ := Lib.hid fun (B1 B2 : Nat) (a b : Option Addr) (c1 c2 : Nat) W h1 h2 => eqTexts_same (ws none (tn l)) B1 B2 a b c1 c2 W hwl h1 h2
    generalize ws none (tn l) = WL at *
    have hsl := hown
    obtain ⟨VW, hVW⟩ : ∃ VW, Value.slice ao WL.length cap = VW := ⟨_, rfl⟩
    have HVW := Lib.hid hVW
    have HOW := Lib.hid hown
    rw [hVW] at he
    subst he
    have IWH := Lib.hid IW
    clear IW hown hsl ha hVW
    go_wp2_with fail
    refine (IA.out _ (HT.out.below HB7.out)).mono ?_
    rintro e w8 ⟨rfl, hb8⟩
    have HB8 := Lib.hid (chain HB7.out hb8)
    have HO8 := Lib.hid (owns_below HOW.out hb8)
    clear hb8
    go_wp2_with fail
    refine (TA.out _).mono ?_
    rintro e wx ⟨rfl, hwx⟩
    obtain rfl := hwx.symm
    go_wp2_with fail
    refine (IB.out _ (HT.out.below HB8.out)).mono ?_
    rintro e w9 ⟨rfl, hb9⟩
    have HB9 := Lib.hid (chain HB8.out hb9)
    have HO9 := Lib.hid (owns_below HO8.out hb9)
    clear hb9
    go_wp2_with fail
    refine (TB.out _).mono ?_
    rintro e wx ⟨rfl, hwx⟩
    obtain rfl := hwx.symm
    go_wp2_with fail
    refine (IC.out _ (HT.out.below HB9.out)).mono ?_
    rintro e w10 ⟨rfl, hb10⟩
    have HB10 := Lib.hid (chain HB9.out hb10)
    have HO10 := Lib.hid (owns_below HO9.out hb10)
    clear hb10
    go_wp2_with fail
    refine (TC.out _).mono ?_
    rintro e wx ⟨rfl, hwx⟩
    obtain rfl := hwx.symm
    go_wp2_with fail
    refine (IWH.out _ (HT.out.below HB10.out)).mono ?_
    rintro e w11 ⟨ao2, cap2, he2, hown2, hb11⟩
    have HB11 := Lib.hid (chain HB10.out hb11)
    have HO11 := Lib.hid (owns_below HO10.out hb11)
    have CE := EQ.out _ _ ao2 ao cap2 cap w11 hown2 HO11.out
    rw [HVW.out] at CE
    obtain ⟨VI, hVI⟩ : ∃ VI, Value.slice ao2 WL.length cap2 = VI := ⟨_, rfl⟩
    rw [hVI] at he2 CE
    subst he2
    have CEH := Lib.hid CE
    clear CE hVI hown2 hb11
    go_wp2_with fail
    refine CEH.out.mono ?_
    rintro e w12 ⟨rfl, hb12⟩
    have HB12 := Lib.hid (chain HB11.out hb12)
    clear hb12
    go_wp2
    go_ret
    exact ⟨rfl, HB12.out⟩

end Go.Proofs.YthanbbflemkomaaDoor
