/- The law FnCamelRoads: its walk. -/
import Derived.Test.YtplillcmgahapaaDoorCamel
import Derived.Test.YtplillcmgahapaaDoorCHelp
namespace Go.Proofs.YtplillcmgahapaaDoor
open Go.RowKit U8
open Go.Lib hiding intOf

theorem toCamel_any (l : List UInt8) (w : World) (hl : l.length ≤ 1000000) (hS : Spc w) :
    Calls Tryd.prog 9 #[.string (txt l)] w fun e w' => e = .returned (.string (txt (cam true true (trimSpaceD l)))) ∧ Below w.heap.size w w' := by
  have C := Lib.hid fun W (h : Spc W) => camel_any l true W hl h
  go_enter Tryd.func9, Tryd.ntmps9
  go_wp2_with (first
    | (go_at_call 58; refine (C.out _ hS).mono ?_; rintro e w1 ⟨rfl, hb1⟩)
    | go_in)
  go_ret
  exact ⟨rfl, hb1⟩
theorem toLowerCamel_any (l : List UInt8) (w : World) (hl : l.length ≤ 1000000) (hS : Spc w) :
    Calls Tryd.prog 10 #[.string (txt l)] w fun e w' => e = .returned (.string (txt (cam false true (trimSpaceD l)))) ∧ Below w.heap.size w w' := by
  have C := Lib.hid fun W (h : Spc W) => camel_any l false W hl h
  go_enter Tryd.func10, Tryd.ntmps10
  go_wp2_with (first
    | (go_at_call 58; refine (C.out _ hS).mono ?_; rintro e w1 ⟨rfl, hb1⟩)
    | go_in)
  go_ret
  exact ⟨rfl, hb1⟩
theorem cam_ex1 (w : World) (hS : Spc w) :
    Calls Tryd.prog 9 #[.string ⟨#[97, 110, 121, 95, 107, 105, 110, 100]⟩] w fun e w' => e = .returned (.string ⟨#[65, 110, 121, 75, 105, 110, 100]⟩) ∧ Below w.heap.size w w' := by
  have h := toCamel_any [97, 110, 121, 95, 107, 105, 110, 100] w (by decide) hS
  rw [show cam true true (trimSpaceD [97, 110, 121, 95, 107, 105, 110, 100]) = [65, 110, 121, 75, 105, 110, 100] by decide +kernel] at h
  exact h
theorem cam_ex2 (w : World) (hS : Spc w) :
    Calls Tryd.prog 10 #[.string ⟨#[97, 110, 121, 95, 107, 105, 110, 100]⟩] w fun e w' => e = .returned (.string ⟨#[97, 110, 121, 75, 105, 110, 100]⟩) ∧ Below w.heap.size w w' := by
  have h := toLowerCamel_any [97, 110, 121, 95, 107, 105, 110, 100] w (by decide) hS
  rw [show cam false true (trimSpaceD [97, 110, 121, 95, 107, 105, 110, 100]) = [97, 110, 121, 75, 105, 110, 100] by decide +kernel] at h
  exact h

/-- A byte that may stand in a text of words. -/
def sepC (b : UInt8) : Bool := isAln b || decide (b.toNat = 32 ∨ b.toNat = 95 ∨ b.toNat = 45)
def sepB (l : List UInt8) : Bool := l.all sepC && decide (l.length ≤ 4096)

set_option maxHeartbeats 3200000 in
set_option maxRecDepth 100000 in
theorem separated_any (l : List UInt8) (B : Bool) (w : World) (hl : l.length ≤ 2147483647) (hB : sepB l = B) :
    Calls Tryd.prog 11 #[.string (txt l)] w fun e w' => e = .returned (.bool B) ∧ Below w.heap.size w w' := by
  have hll := txt_size l
  have HB := Lib.hid hB.symm
  clear hB
  go_enter Tryd.func11, Tryd.ntmps11
  go_wp2
  go_loopg [3] (l.length + 1) (fun gk i wr => ∃ p rest : List UInt8, Hid (l = p ++ rest) ∧ i = .int .i64 p.length ∧ rest.length < gk ∧ Hid (p.all sepC = true) ∧ wr = w)
  case atStart => exact ⟨[], l, rfl, rfl, by omega, rfl, rfl⟩
  case round =>
    obtain ⟨p, rest, HT, rfl, hg, HA, rfl⟩ := hrel
    have hpl : p.length + rest.length = l.length := by have h := congrArg List.length HT.out; rw [List.length_append] at h; omega
    cases rest with
    | nil =>
      rw [List.length_nil] at hpl
      have e := HT.out
      rw [List.append_nil] at e
      have hv : B = decide (l.length ≤ 4096) := by rw [HB.out, sepB, e, HA.out, Bool.true_and]
      clear e
      subst hv
      by_cases h4 : 4096 < l.length
      · go_wp2_with go_in
        go_ret
        exact ⟨ret_bool (by show (!decide ((4096 : Int) < (l.length : Int))) = _; rw [decide_eq_true (by omega), decide_eq_false (by omega)]; rfl), Below.refl _ _⟩
      · go_wp2_with go_in
        go_ret
        exact ⟨ret_bool (by show (!decide ((4096 : Int) < (l.length : Int))) = _; rw [decide_eq_false (by omega), decide_eq_true (by omega)]; rfl), Below.refl _ _⟩
    | cons b rest =>
      rw [List.length_cons] at hpl hg
      have hbk : l[p.length]? = some b := by rw [HT.out, List.getElem?_append_right (Nat.le_refl _), Nat.sub_self]; rfl
      have hix := run_byte l p.length b hbk
      have hb256 := b.toNat_lt
      have HT2 : Hid (l = (p ++ [b]) ++ rest) := by show _ = _; rw [HT.out]; simp
      have HNO : Hid (sepC b = false → B = false) := fun h => by rw [HB.out, sepB, HT.out, List.all_append, List.all_cons, h]; simp
      have HYES : Hid (sepC b = true → (p ++ [b]).all sepC = true) := fun h => by rw [List.all_append, HA.out, List.all_cons, h]; rfl
      obtain ⟨x, hx⟩ : ∃ x, b.toNat = x := ⟨_, rfl⟩
      rw [hx] at hix hb256
      have HX := Lib.hid hx
      obtain ⟨gk, rfl⟩ : ∃ m, gk = m + 1 := ⟨gk - 1, by omega⟩
      have hsc : Hid (sepC b = decide (((97 ≤ x ∧ x ≤ 122) ∨ (65 ≤ x ∧ x ≤ 90) ∨ (48 ≤ x ∧ x ≤ 57)) ∨ (x = 32 ∨ x = 95 ∨ x = 45))) := by
        show _ = _
        unfold sepC
        rw [isAln_nat, HX.out, Bool.eq_iff_iff]
        simp only [Bool.or_eq_true, decide_eq_true_eq]
        omega
      clear hx hbk
      by_cases hlet : (97 ≤ x ∧ x ≤ 122) ∨ (65 ≤ x ∧ x ≤ 90)
      · have cL := Lib.hid fun W => show Calls Tryd.prog 12 #[.int .u8 x] W fun e w' => e = .returned (.bool true) ∧ w' = W from (decide_eq_true hlet) ▸ letter_any x W (by omega)
        have hy := HYES.out (by rw [hsc.out, decide_eq_true_eq]; omega)
        clear hlet
        go_wp2_with (go_at_call 12; refine (cL.out _).mono ?_; rintro e w3 ⟨rfl, rfl⟩)
        go_roundg gk
        case rel => exact ⟨p ++ [b], rest, HT2.out, by rw [List.length_append]; go_num, by omega, hy, rfl⟩
        case measure => omega
      have cL := Lib.hid fun W => show Calls Tryd.prog 12 #[.int .u8 x] W fun e w' => e = .returned (.bool false) ∧ w' = W from (decide_eq_false hlet) ▸ letter_any x W (by omega)
      by_cases hdig : 48 ≤ x ∧ x ≤ 57
      · have hy := HYES.out (by rw [hsc.out, decide_eq_true_eq]; omega)
        clear hlet
        go_wp2_with (go_at_call 12; refine (cL.out _).mono ?_; rintro e w3 ⟨rfl, rfl⟩)
        go_roundg gk
        case rel => exact ⟨p ++ [b], rest, HT2.out, by rw [List.length_append]; go_num, by omega, hy, rfl⟩
        case measure => omega
      by_cases hsp : x = 32 ∨ x = 95 ∨ x = 45
      · have hy := HYES.out (by rw [hsc.out, decide_eq_true_eq]; omega)
        clear hlet hdig
        rcases hsp with rfl | rfl | rfl <;>
        · go_wp2_with (go_at_call 12; refine (cL.out _).mono ?_; rintro e w3 ⟨rfl, rfl⟩)
          go_roundg gk
          case rel => exact ⟨p ++ [b], rest, HT2.out, by rw [List.length_append]; go_num, by omega, hy, rfl⟩
          case measure => omega
      · have hn := HNO.out (by rw [hsc.out, decide_eq_false_iff_not]; omega)
        have n1 : ((x : Int) != 32) = true := by simp; omega
        have n2 : ((x : Int) != 95) = true := by simp; omega
        have n3 : ((x : Int) != 45) = true := by simp; omega
        rcases (show x < 48 ∨ 57 < x by omega) with h | h <;>
        · clear hlet hdig hsp
          go_wp2_with (go_at_call 12; refine (cL.out _).mono ?_; rintro e w3 ⟨rfl, rfl⟩)
          go_ret
          first | exact ⟨rfl, Below.refl _ _⟩ | exact ⟨by rw [hn]; rfl, Below.refl _ _⟩

theorem sepC_lt {b : UInt8} (h : sepC b = true) : b.toNat < 128 := by
  unfold sepC at h
  rw [isAln_nat, Bool.or_eq_true, decide_eq_true_eq, decide_eq_true_eq] at h
  omega
theorem swp_facts (f t : UInt8) (h : (f = 95 ∧ t = 45) ∨ (f = 45 ∧ t = 95)) (b : UInt8) :
    (isAln b = true → swpB f t b = b) ∧ isAln (swpB f t b) = isAln b ∧ camN (swpB f t b) = camN b ∧ isCap (swpB f t b) = isCap b ∧ isSp (swpB f t b) = isSp b ∧ (b.toNat < 128 → (swpB f t b).toNat < 128) := by
  unfold swpB
  by_cases e : b = f
  · rw [if_pos e, e]
    rcases h with ⟨rfl, rfl⟩ | ⟨rfl, rfl⟩ <;> decide
  · rw [if_neg e]
    exact ⟨fun _ => rfl, rfl, rfl, rfl, rfl, id⟩
theorem cam_swp (f t : UInt8) (h : (f = 95 ∧ t = 45) ∨ (f = 45 ∧ t = 95)) (cn e : Bool) (l : List UInt8) (hl : ∀ b ∈ l, b.toNat < 128) : cam cn e (trimSpaceD (l.map (swpB f t))) = cam cn e (trimSpaceD l) := by
  rw [trim_asc l hl, trim_asc (l.map (swpB f t)) (fun x hx => by obtain ⟨b, hb, rfl⟩ := List.mem_map.1 hx; exact (swp_facts f t h b).2.2.2.2.2 (hl b hb))]
  rw [trim_map (swpB f t) (fun b => (swp_facts f t h b).2.2.2.2.1)]
  exact cam_map (swpB f t) (fun b => (swp_facts f t h b).1) (fun b => (swp_facts f t h b).2.1) (fun b => (swp_facts f t h b).2.2.1) (fun b => (swp_facts f t h b).2.2.2.1) cn e _

set_option maxHeartbeats 3200000 in
set_option maxRecDepth 100000 in
theorem law_camelRoads (s : ByteArray) (w : World) (hsz : s.size ≤ 140737488351232) (hS : Spc w) :
    Calls Tryd.prog 3 #[.string s] w fun e w' => e = .returned (.bool true) ∧ Below w.heap.size w w' := by
  by_cases hbig : 2147483647 < s.size
  · go_enter Tryd.func3, Tryd.ntmps3
    go_wp2
    go_ret
    exact ⟨rfl, Below.refl _ _⟩
  have hle : s.size ≤ 2147483647 := by omega
  clear hbig hsz
  obtain ⟨l, rfl⟩ : ∃ l, s = txt l := ⟨s.data.toList, (list_txt s).symm⟩
  have hl : l.length ≤ 2147483647 := by rw [txt_size] at hle; exact hle
  cases hsep : sepB l with
  | false =>
    have cP := Lib.hid fun W => separated_any l false W hl hsep
    go_enter Tryd.func3, Tryd.ntmps3
    go_wp2_with (first
      | (go_at_call 9; refine (cam_ex1 _ hS).mono ?_; rintro e w1 ⟨rfl, hb1⟩)
      | (go_at_call 10; refine (cam_ex2 _ (hS.below hb1)).mono ?_; rintro e w2 ⟨rfl, hb2⟩)
      | (go_at_call 11; refine (cP.out _).mono ?_; rintro e w3 ⟨rfl, hb3⟩))
    go_ret
    exact ⟨rfl, chain (chain hb1 hb2) hb3⟩
  | true =>
    have cP := Lib.hid fun W => separated_any l true W hl hsep
    unfold sepB at hsep
    rw [Bool.and_eq_true, decide_eq_true_eq, List.all_eq_true] at hsep
    have hl4 := hsep.2
    have hasc : ∀ b ∈ l, b.toNat < 128 := fun b hb => sepC_lt (hsep.1 b hb)
    clear hsep hl
    by_cases hid : l = [73, 68]
    · subst hid
      have hids : ((txt [73, 68]).toList == [73, 68]) = true := by rw [txt_toList]; rfl
      go_enter Tryd.func3, Tryd.ntmps3
      go_wp2_with (first
        | (go_at_call 9; refine (cam_ex1 _ hS).mono ?_; rintro e w1 ⟨rfl, hb1⟩)
        | (go_at_call 10; refine (cam_ex2 _ (hS.below hb1)).mono ?_; rintro e w2 ⟨rfl, hb2⟩)
        | (go_at_call 11; refine (cP.out _).mono ?_; rintro e w3 ⟨rfl, hb3⟩))
      go_ret
      exact ⟨rfl, chain (chain hb1 hb2) hb3⟩
    have hids : ((txt l).toList == [73, 68]) = false := by rw [txt_toList]; exact beq_eq_false_iff_ne.2 hid
    have cT := Lib.hid fun W (k : Spc W) => toCamel_any l W (by omega) k
    have cL := Lib.hid fun W (k : Spc W) => toLowerCamel_any l W (by omega) k
    have c95 : ∀ W, Calls Tryd.prog 13 #[.string (txt l), .int .u8 95, .int .u8 45] W fun e w' => e = .returned (.string (txt (l.map (swpB 95 45)))) ∧ Below W.heap.size W w' := fun W => swapped_any l 95 45 W (by omega)
    have c45 : ∀ W, Calls Tryd.prog 13 #[.string (txt l), .int .u8 45, .int .u8 95] W fun e w' => e = .returned (.string (txt (l.map (swpB 45 95)))) ∧ Below W.heap.size W w' := fun W => swapped_any l 45 95 W (by omega)
    have cT95 := Lib.hid fun W (k : Spc W) => cam_swp 95 45 (.inl ⟨rfl, rfl⟩) true true l hasc ▸ toCamel_any (l.map (swpB 95 45)) W (by rw [List.length_map]; omega) k
    have cT45 := Lib.hid fun W (k : Spc W) => cam_swp 45 95 (.inr ⟨rfl, rfl⟩) true true l hasc ▸ toCamel_any (l.map (swpB 45 95)) W (by rw [List.length_map]; omega) k
    have hlo : (cam true true (trimSpaceD l)).map loB = (cam false true (trimSpaceD l)).map loB := (cam_lo true true _).trans (cam_lo false true _).symm
    have htl := trim_len l
    have hc1 := cam_len true true (trimSpaceD l)
    have hc2 := cam_len false true (trimSpaceD l)
    have cW1 := Lib.hid fun W => lower_any (cam true true (trimSpaceD l)) W (by omega)
    have cW2 := Lib.hid fun W => hlo ▸ lower_any (cam false true (trimSpaceD l)) W (by omega)
    have hAln := cam_aln true true (trimSpaceD l)
    have HAln := Lib.hid hAln
    have C95 := Lib.hid c95
    have C45 := Lib.hid c45
    clear c95 c45 hAln hlo hasc hid
    have hT4 : (cam true true (trimSpaceD l)).length ≤ 4096 := by omega
    clear hc1 hc2 htl
    generalize (cam true true (trimSpaceD l)).map loB = U at *
    generalize cam true true (trimSpaceD l) = T at *
    generalize cam false true (trimSpaceD l) = TL at *
    generalize l.map (swpB 95 45) = l95 at *
    generalize l.map (swpB 45 95) = l45 at *
    have hTs := txt_size T
    go_enter Tryd.func3, Tryd.ntmps3
    go_wp2_with (first
      | (go_at_call 9; refine (cam_ex1 _ hS).mono ?_; rintro e w1 ⟨rfl, hb1⟩)
      | (go_at_call 10; refine (cam_ex2 _ (hS.below hb1)).mono ?_; rintro e w2 ⟨rfl, hb2⟩)
      | (go_at_call 11; refine (cP.out _).mono ?_; rintro e w3 ⟨rfl, hb3⟩)
      | (go_at_call 9; refine (cT.out _ (hS.below (chain (chain hb1 hb2) hb3))).mono ?_; rintro e w4 ⟨rfl, hb4⟩))
    have hc4 := chain (chain (chain hb1 hb2) hb3) hb4
    clear hb1 hb2 hb3 hb4 cP cT
    go_loopg [4] (T.length + 1) (fun gk i wr => ∃ p rest : List UInt8, Hid (T = p ++ rest) ∧ i = .int .i64 p.length ∧ rest.length < gk ∧ wr = w4)
    case atStart => exact ⟨[], T, rfl, rfl, by omega, rfl⟩
    case round =>
      obtain ⟨p, rest, HT, rfl, hg, rfl⟩ := hrel
      have hpl : p.length + rest.length = T.length := by have h := congrArg List.length HT.out; rw [List.length_append] at h; omega
      cases rest with
      | nil =>
        rw [List.length_nil] at hpl
        go_wp2_with fail
        refine (C95.out _).mono ?_
        rintro e w5 ⟨rfl, hb5⟩
        have hc5 := chain hc4 hb5
        go_wp2_with fail
        refine (cT95.out _ (hS.below hc5)).mono ?_
        rintro e w6 ⟨rfl, hb6⟩
        have hc6 := chain hc5 hb6
        go_wp2_with fail
        refine (C45.out _).mono ?_
        rintro e w7 ⟨rfl, hb7⟩
        have hc7 := chain hc6 hb7
        go_wp2_with fail
        refine (cT45.out _ (hS.below hc7)).mono ?_
        rintro e w8 ⟨rfl, hb8⟩
        have hc8 := chain hc7 hb8
        go_wp2_with fail
        refine (cL.out _ (hS.below hc8)).mono ?_
        rintro e w9 ⟨rfl, hb9⟩
        have hc9 := chain hc8 hb9
        go_wp2_with fail
        refine (cW2.out _).mono ?_
        rintro e wa ⟨rfl, hba⟩
        have hca := chain hc9 hba
        go_wp2_with fail
        refine (cW1.out _).mono ?_
        rintro e wc ⟨rfl, hbc⟩
        have hcc := chain hca hbc
        go_wp2
        go_ret
        exact ⟨rfl, hcc⟩
      | cons b rest =>
        rw [List.length_cons] at hpl hg
        have hbk : T[p.length]? = some b := by rw [HT.out, List.getElem?_append_right (Nat.le_refl _), Nat.sub_self]; rfl
        have hix := run_byte T p.length b hbk
        have hb256 := b.toNat_lt
        have HT2 : Hid (T = (p ++ [b]) ++ rest) := by show _ = _; rw [HT.out]; simp
        have ha := HAln.out b (by rw [HT.out]; simp)
        rw [isAln_nat, decide_eq_true_eq] at ha
        obtain ⟨x, hx⟩ : ∃ x, b.toNat = x := ⟨_, rfl⟩
        rw [hx] at hix hb256 ha
        obtain ⟨gk, rfl⟩ : ∃ m, gk = m + 1 := ⟨gk - 1, by omega⟩
        clear hx hbk
        by_cases hlet : (97 ≤ x ∧ x ≤ 122) ∨ (65 ≤ x ∧ x ≤ 90)
        · have cLt := Lib.hid fun W => show Calls Tryd.prog 12 #[.int .u8 x] W fun e w' => e = .returned (.bool true) ∧ w' = W from (decide_eq_true hlet) ▸ letter_any x W (by omega)
          clear hlet ha
          go_wp2_with (go_at_call 12; refine (cLt.out _).mono ?_; rintro e w3 ⟨rfl, rfl⟩)
          go_roundg gk
          case rel => exact ⟨p ++ [b], rest, HT2.out, by rw [List.length_append]; go_num, by omega, rfl⟩
          case measure => omega
        · have cLt := Lib.hid fun W => show Calls Tryd.prog 12 #[.int .u8 x] W fun e w' => e = .returned (.bool false) ∧ w' = W from (decide_eq_false hlet) ▸ letter_any x W (by omega)
          have h1 : 48 ≤ x := by omega
          have h2 : x ≤ 57 := by omega
          clear hlet ha
          go_wp2_with (go_at_call 12; refine (cLt.out _).mono ?_; rintro e w3 ⟨rfl, rfl⟩)
          go_roundg gk
          case rel => exact ⟨p ++ [b], rest, HT2.out, by rw [List.length_append]; go_num, by omega, rfl⟩
          case measure => omega

end Go.Proofs.YtplillcmgahapaaDoor
