/- properties.encodeUtf8, encode: their walks at any text. -/
import Derived.Test.YtmmnljepbnifnaaDoorGEsc
namespace Go.Proofs.YtmmnljepbnifnaaDoor
open Go.RowKit U8
open Go.Lib hiding intOf

/-- The tables that the encoder reads lie as their initialisers lay them. -/
structure Wt (w : World) : Prop where
  u8 : Tabs w
  ws : Lib.WhiteTab 2 w
theorem Wt.below {w w' : World} (h : Wt w) (hb : Below w.heap.size w w') : Wt w' := ⟨h.u8.below hb, WhiteTab_below h.ws hb⟩
def encL (sp : List UInt8) : Bool → List Nat → List UInt8
  | _, [] => []
  | f, r :: rs => escP (if f && isSpaceZ r then [32] else sp) r ++ encL sp false rs
def encT (sp l : List UInt8) : List UInt8 := encL sp true (rns l)
theorem encL_le (sp : List UInt8) : ∀ (f : Bool) (rs : List Nat), (encL sp f rs).length ≤ 5 * rs.length
  | _, [] => by simp [encL]
  | f, r :: rs => by
    have h1 := encL_le sp false rs
    have h2 := escP_le (if f && isSpaceZ r then [32] else sp) r
    unfold encL
    rw [List.length_append, List.length_cons]
    omega
theorem pcsF_le : ∀ (n : Nat) (l : List UInt8), (pcsF n l).length ≤ n
  | 0, _ => by simp [pcsF]
  | n + 1, l => by
    unfold pcsF
    split
    · simp
    · have := pcsF_le n (l.drop (decodeL l).2)
      simp only [List.length_cons]; omega
theorem encT_le (sp l : List UInt8) : (encT sp l).length ≤ 5 * l.length := by
  have h1 := encL_le sp true (rns l)
  have h2 : (rns l).length ≤ l.length := by unfold rns pcs; rw [List.length_map]; exact pcsF_le _ _
  unfold encT; omega
set_option maxHeartbeats 2400000 in
set_option maxRecDepth 100000 in
theorem encU_any (sp l : List UInt8) (w : World) (hl : l.length ≤ 100000) (hs : sp.length ≤ 1000000) (hT : Wt w) :
    Calls Tryd.prog 39 #[.string (txt l), .string (txt sp)] w fun e w' => e = .returned (.string (txt (encT sp l))) ∧ Below w.heap.size w w' := by
  have HT := Lib.hid hT
  have hle := encT_le sp l
  obtain ⟨S, hS⟩ : ∃ S, encT sp l = S := ⟨_, rfl⟩
  rw [hS] at hle ⊢
  have hSl : S.length ≤ 500000 := by omega
  have HSL := Lib.hid hSl
  have HS := Lib.hid hS.symm
  have hzl := txt_size l
  clear hT hS hle hSl
  go_enter Tryd.func39, Tryd.ntmps39
  go_wp2
  go_loopg [5, 6] (l.length + 1) (fun gk v5 v6 wr => ∃ p rest o : List UInt8, v6 = .int .i64 p.length ∧ v5 = .string (txt o) ∧ Hid (l = p ++ rest) ∧ rest.length < gk ∧ Hid (S = o ++ encL sp (p.length == 0) (rns rest)) ∧ Hid (Below w.heap.size w wr))
  case atStart => exact ⟨[], l, [], rfl, rfl, rfl, by omega, HS.out, Below.refl _ _⟩
  case round =>
    obtain ⟨p, rest, o, rfl, rfl, HP, hg, HO, HB⟩ := hrel
    have hbs := HB.out.size
    by_cases hne : rest = []
    · subst hne
      have hpl : l.length ≤ p.length := by rw [HP.out]; simp
      have HF : Hid (txt o = txt S) := by show _ = _; rw [HO.out]; simp [rns_nil, encL]
      clear HO
      go_wp2
      go_ret
      exact ⟨congrArg (fun z => Ending.returned (.string z)) HF.out, HB.out⟩
    · obtain ⟨a, rest, x, rfl, ha, hd, hsc, _⟩ := first_part rest hne
      have hxi := hsc.i32
      have hal : 0 < a.length := List.length_pos_iff.2 ha
      have hpl : l.length ≤ p.length + (a.length + rest.length) := by rw [HP.out]; simp
      have hpl2 : p.length + (a.length + rest.length) ≤ l.length := by rw [HP.out]; simp
      rw [List.length_append] at hg
      obtain ⟨gk, rfl⟩ : ∃ m, gk = m + 1 := ⟨gk - 1, by omega⟩
      have hsl : (txt l).extract p.length (txt l).size = txt (a ++ rest) := by rw [HP.out]; exact txt_skip p (a ++ rest)
      have hsl2 : (txt l).extract p.length l.length = txt (a ++ rest) := by rw [← hzl]; exact hsl
      have cD := Lib.hid (dec_list a rest x wr ha hd (HT.out.u8.below HB.out))
      have hrn := rns_cons a rest x ha hd
      rw [hrn] at HO
      have hol : o.length ≤ 500000 := by
        have h1 := HSL.out
        have h2 := HO.out
        rw [h2, List.length_append] at h1
        omega
      have hzo := txt_size o
      have HPN : Hid (l = (p ++ a) ++ rest) := by show _ = _; rw [List.append_assoc]; exact HP.out
      have HNZ : Hid (((p ++ a).length == 0) = false) := by show _ = _; rw [beq_eq_false_iff_ne]; simp; intro _; exact ha
      clear hne ha hd hrn
      by_cases hp0 : p.length = 0
      · have hz : ((p.length : Int) == 0) = true := by rw [hp0]; rfl
        have hO2 : S = o ++ (escP (if isSpaceZ x then [32] else sp) x ++ encL sp false (rns rest)) := by
          have := HO.out
          rw [show (p.length == 0) = true by rw [hp0]; rfl] at this
          exact this
        have HO2 := Lib.hid hO2
        clear hO2 HO hp0
        go_wp2_with fail
        refine cD.out.mono ?_
        rintro e w1 ⟨rfl, hb1⟩
        have HB1 := Lib.hid (HB.out.trans (hb1.mono hbs))
        have hs1 := HB1.out.size
        clear hb1
        have cS := Lib.hid (Tryd.unicode_IsSpace_any x w1 hxi.1 hxi.2 (HT.out.below HB1.out).ws)
        generalize hq : isSpaceZ (x : Int) = q at *
        clear hq
        go_wp2_with fail
        refine cS.out.mono ?_
        rintro e w2 ⟨rfl, hb2⟩
        have HB2 := Lib.hid (HB1.out.trans (hb2.mono hs1))
        have hs2 := HB2.out.size
        clear hb2
        cases q
        · have cE := Lib.hid (escape_any sp x w2 hsc hs)
          have hel := escP_le sp x
          have hO3 : S = (o ++ escP sp x) ++ encL sp false (rns rest) := by rw [List.append_assoc]; exact HO2.out
          have HO3 := Lib.hid hO3
          clear hO3 HO2
          generalize escP sp x = E at *
          have hze := txt_size E
          go_wp2_with fail
          refine cE.out.mono ?_
          rintro e w3 ⟨rfl, hb3⟩
          have HB3 := Lib.hid (HB2.out.trans (hb3.mono hs2))
          clear hb3
          go_wp2
          go_roundg gk
          case rel => exact ⟨p ++ a, rest, o ++ E, by simp, by rw [txt_append], HPN.out, by omega, by show _ = _; rw [HNZ.out]; exact HO3.out, HB3.out⟩
          case measure => omega
        · have cE := Lib.hid (escape_any [32] x w2 hsc (by simp))
          have hel := escP_le [32] x
          have hO3 : S = (o ++ escP [32] x) ++ encL sp false (rns rest) := by rw [List.append_assoc]; exact HO2.out
          have HO3 := Lib.hid hO3
          clear hO3 HO2
          generalize escP [32] x = E at *
          have hze := txt_size E
          go_wp2_with fail
          refine cE.out.mono ?_
          rintro e w3 ⟨rfl, hb3⟩
          have HB3 := Lib.hid (HB2.out.trans (hb3.mono hs2))
          clear hb3
          go_wp2
          go_roundg gk
          case rel => exact ⟨p ++ a, rest, o ++ E, by simp, by rw [txt_append], HPN.out, by omega, by show _ = _; rw [HNZ.out]; exact HO3.out, HB3.out⟩
          case measure => omega
      · have hz : ((p.length : Int) == 0) = false := beq_eq_false_iff_ne.2 (by omega)
        have hO2 : S = (o ++ escP sp x) ++ encL sp false (rns rest) := by
          have := HO.out
          rw [show (p.length == 0) = false from beq_eq_false_iff_ne.2 hp0] at this
          rw [List.append_assoc]
          exact this
        have HO2 := Lib.hid hO2
        clear hO2 HO hp0
        go_wp2_with fail
        refine cD.out.mono ?_
        rintro e w1 ⟨rfl, hb1⟩
        have HB1 := Lib.hid (HB.out.trans (hb1.mono hbs))
        have hs1 := HB1.out.size
        clear hb1
        have cE := Lib.hid (escape_any sp x w1 hsc hs)
        have hel := escP_le sp x
        generalize escP sp x = E at *
        have hze := txt_size E
        go_wp2_with fail
        refine cE.out.mono ?_
        rintro e w3 ⟨rfl, hb3⟩
        have HB3 := Lib.hid (HB1.out.trans (hb3.mono hs1))
        clear hb3
        go_wp2
        go_roundg gk
        case rel => exact ⟨p ++ a, rest, o ++ E, by simp, by rw [txt_append], HPN.out, by omega, by show _ = _; rw [HNZ.out]; exact HO2.out, HB3.out⟩
        case measure => omega
set_option maxRecDepth 100000 in
theorem enc_any (sp l : List UInt8) (w : World) (hl : l.length ≤ 100000) (hs : sp.length ≤ 1000000) (hT : Wt w) :
    Calls Tryd.prog 31 #[.string (txt l), .string (txt sp), .int .u64 1] w fun e w' => e = .returned (.string (txt (encT sp l))) ∧ Below w.heap.size w w' := by
  have C := Lib.hid (encU_any sp l w hl hs hT)
  clear hl hs hT
  go_enter Tryd.func31, Tryd.ntmps31
  go_wp2_with fail
  refine C.out.mono ?_
  rintro e w1 ⟨rfl, hb⟩
  go_wp2
  go_ret
  exact ⟨rfl, hb⟩
end Go.Proofs.YtmmnljepbnifnaaDoor
