/- The reference's words: spec.parted at one separator between two words. -/
import Derived.Test.YthanbbflemkomaaDoorMSpec
namespace Go.Proofs.YthanbbflemkomaaDoor
open Go.RowKit U8
open Go.Lib hiding intOf

theorem txt_mid1 (l : List UInt8) (k : Nat) (c : UInt8) (h : l[k]? = some c) : (txt l).extract k (k + 1) = txt [c] := by
  obtain ⟨p, t, rfl, rfl⟩ := split_at l k c h
  have hs : (txt (p ++ c :: t)).extract p.length (txt (p ++ c :: t)).size = txt (c :: t) := txt_skip p (c :: t)
  apply ByteArray.ext
  apply Array.ext'
  simp [txt, ByteArray.extract, ByteArray.copySlice]
theorem run_mid1 (l : List UInt8) (k : Nat) (c : UInt8) (h : l[k]? = some c) (hk : k + 1 ≤ 1000000) : ∀ W, (Instr.slice 9 (.string (txt l)) (some (.int .i64 (k : Int))) (some (.int .i64 ((k : Int) + 1))) none).run Tryd.prog W = .ok (.string (txt [c])) W := fun W => by
  have hl : k < l.length := (List.getElem?_eq_some_iff.1 h).1
  have e := run_slice_string (P := Tryd.prog) W 9 (txt l) .i64 .i64 k (k + 1 : Nat) Tryd.underlying9 (by omega) (by omega) (by rw [txt_size]; omega)
  rw [show ((k : Int)).toNat = k by omega, show (((k + 1 : Nat) : Int)).toNat = k + 1 by omega, txt_mid1 l k c h] at e
  exact e
/-- What spec.parted tells. -/
def PtPost (R : Option (List (List UInt8))) (w : World) (e : Ending) (w' : World) : Prop :=
  Below w.heap.size w w' ∧ (R = none → e = .returned (.tuple #[.slice none 0 0, .int .i64 2])) ∧
    ∀ ws, R = some ws → ∃ ao cap, e = .returned (.tuple #[.slice ao ws.length cap, .int .i64 1]) ∧ w'.ownsRow w.heap.size 9 1 (.slice ao ws.length cap) ws.length (strsV ws)
theorem PtPost.no {w w' : World} {R : Option (List (List UInt8))} {e : Ending} (hR : R = none) (hb : Below w.heap.size w w') (he : e = .returned (.tuple #[.slice none 0 0, .int .i64 2])) : PtPost R w e w' :=
  ⟨hb, fun _ => he, fun ws h => by rw [hR] at h; cases h⟩
theorem PtPost.yes {w w' : World} {R : Option (List (List UInt8))} {ws : List (List UInt8)} {ao : Option Addr} {cap : Nat} (hR : R = some ws) (hb : Below w.heap.size w w')
    (ho : w'.ownsRow w.heap.size 9 1 (.slice ao ws.length cap) ws.length (strsV ws)) : PtPost R w (.returned (.tuple #[.slice ao ws.length cap, .int .i64 1])) w' :=
  ⟨hb, (fun h => by rw [hR] at h; cases h), (fun ws2 h => by rw [hR] at h; cases h; exact ⟨ao, cap, rfl, ho⟩)⟩
theorem pt_nil_e (out : List (List UInt8)) : pt out [] [] = none := rfl
theorem pt_nil {out : List (List UInt8)} {word : List UInt8} (h : word ≠ []) : pt out word [] = some (out ++ [word]) := by rw [pt, if_neg h]
theorem pt_sep_no {out : List (List UInt8)} {word r : List UInt8} {c : UInt8} (hs : sepX c = true) (h : word = [] ∨ r = []) : pt out word (c :: r) = none := by rw [pt, if_pos hs, if_pos h]
theorem pt_sep {out : List (List UInt8)} {word r : List UInt8} {c : UInt8} (hs : sepX c = true) (h : word ≠ []) (h2 : r ≠ []) : pt out word (c :: r) = pt (out ++ [word]) [] r := by rw [pt, if_pos hs, if_neg (by simp [h, h2])]
theorem pt_let {out : List (List UInt8)} {word r : List UInt8} {c : UInt8} (hs : sepX c = false) (h : ltr c = true) : pt out word (c :: r) = pt out (word ++ [c]) r := by rw [pt, if_neg (by simp [hs]), if_pos h]
theorem pt_bad {out : List (List UInt8)} {word r : List UInt8} {c : UInt8} (hs : sepX c = false) (h : ltr c = false) : pt out word (c :: r) = none := by rw [pt, if_neg (by simp [hs]), if_neg (by simp [h])]
theorem strsV_snoc (l : List (List UInt8)) (x : List UInt8) : strsV (l ++ [x]) = strsV l ++ [.string (txt x)] := by simp [strsV]

set_option maxHeartbeats 6400000 in
set_option maxRecDepth 100000 in
theorem parted_any (l : List UInt8) (w : World) (hl : l.length ≤ 1000000) :
    Calls Tryd.prog 46 #[.string (txt l), .bool false] w (PtPost (pt [] [] l) w) := by
  obtain ⟨i0, hi, hz0, hz1, hz2⟩ := info_parts Tryd.infoStr
  obtain ⟨R, hR⟩ : ∃ R, pt [] [] l = R := ⟨_, rfl⟩
  rw [hR]
  have HR0 := Lib.hid hR.symm
  have hts := txt_size l
  obtain ⟨n, hn⟩ : ∃ n, l.length = n := ⟨_, rfl⟩
  have HN := Lib.hid hn
  rw [hn] at hts hl
  clear hR hn
  go_enter Tryd.func46, Tryd.ntmps46
  go_wp2
  go_loopg [6, 7, 8, 9] (n + 1) (fun gk v6 v7 v8 v9 wr => ∃ (k : Nat) (out : List (List UInt8)) (word : List UInt8), v8 = .int .i64 k ∧ v7 = .string (txt word) ∧ k ≤ n ∧ n - k < gk ∧ word.length ≤ k ∧ out.length ≤ k ∧ Hid (R = pt out word (l.drop k)) ∧ Hid (wr.ownsRow w.heap.size 9 1 v6 out.length (strsV out)) ∧ Hid (Below w.heap.size w wr))
  case atStart => exact ⟨0, [], [], rfl, rfl, by omega, by omega, Nat.le_refl _, Nat.le_refl _, HR0.out, World.ownsRow_nil _ _ _ _, Below.refl _ _⟩
  case round =>
    obtain ⟨k, out, word, rfl, rfl, hk, hg, hw, ho, HR, HO, HB⟩ := hrel
    have hbs := HB.out.size
    obtain ⟨ao, cap, hv⟩ := owns_slice HO.out
    subst hv
    have htw := txt_size word
    by_cases hlt : k < n
    · obtain ⟨gk, rfl⟩ : ∃ m, gk = m + 1 := ⟨gk - 1, by omega⟩
      have hkl : k < l.length := by have := HN.out; omega
      have hb := List.getElem?_eq_getElem hkl
      have hd := List.drop_eq_getElem_cons hkl
      generalize l[k] = c at hb hd
      obtain ⟨x, hx⟩ : ∃ x, c.toNat = x := ⟨_, rfl⟩
      have hix := run_at l k c x hb hx
      have hmid := run_mid1 l k c hb (by omega)
      have HX := Lib.hid hx
      have HD : Hid (R = pt out word (c :: l.drop (k + 1))) := by show _ = _; rw [HR.out, hd]
      have HDL : Hid ((l.drop (k + 1)).length = n - (k + 1)) := by show _ = _; rw [List.length_drop, HN.out]
      have cL := Lib.hid fun (q : Bool) (W : World) (hq : ltr c = q) => sletter_is c q W hq
      rw [hx] at cL
      clear hb hd hx HR
      by_cases hs : x = 32 ∨ x = 95 ∨ x = 45
      · have HS : Hid (sepX c = true) := by show _ = _; unfold sepX; rw [HX.out]; exact decide_eq_true hs
        by_cases hw0 : word = []
        · have HF : Hid (R = none) := by show _ = _; rw [HD.out]; exact pt_sep_no HS.out (.inl hw0)
          have he : ((txt word).toList == ([] : List UInt8)) = true := by rw [hw0, txt_toList]; rfl
          clear hw0
          rcases hs with hs | hs | hs
          all_goals
            subst hs
            go_wp2
            go_ret2
            exact PtPost.no HF.out HB.out rfl
        · have he : ((txt word).toList == ([] : List UInt8)) = false := by rw [txt_toList]; exact beq_eq_false_iff_ne.2 hw0
          have HW := Lib.hid hw0
          clear hw0
          by_cases hlast : k + 1 = n
          · have HF : Hid (R = none) := by show _ = _; rw [HD.out]; exact pt_sep_no HS.out (.inr (List.length_eq_zero_iff.1 (by rw [HDL.out]; omega)))
            have hq : ((k : Int) == (n : Int) - 1) = true := by rw [beq_iff_eq]; omega
            clear hlast
            rcases hs with hs | hs | hs
            all_goals
              subst hs
              go_wp2
              go_ret2
              exact PtPost.no HF.out HB.out rfl
          · have hq : ((k : Int) == (n : Int) - 1) = false := beq_eq_false_iff_ne.2 (by omega)
            have HF : Hid (R = pt (out ++ [word]) [] (l.drop (k + 1))) := by
              show _ = _
              rw [HD.out]
              exact pt_sep HS.out HW.out (fun h => by have := HDL.out; rw [h, List.length_nil] at this; omega)
            clear hlast HD
            rcases hs with hs | hs | hs
            all_goals
              subst hs
              go_wp2_with (at_builtin; refine wpList_app1 rfl _ _ 22 9 rfl i0 (.string ⟨#[]⟩) 16 Tryd.underlying22 hi hz0 hz1 hz2 rfl w.heap.size _ out.length _ rfl HO.out (.string (txt word)) rfl rfl (by omega) (by omega) hbs ?_)
              intro ao2 cap2 w2 hown2 hb2 _
              have HO2 : Hid (w2.ownsRow w.heap.size 9 1 (.slice ao2 (out.length + 1) cap2) (out ++ [word]).length (strsV (out ++ [word]))) := by
                show World.ownsRow _ _ _ _ _ _ _
                rw [List.length_append, strsV_snoc]
                exact hown2
              have HB2 := Lib.hid (HB.out.trans hb2)
              clear hown2 hb2
              go_wp2
              go_roundg gk
              case rel => exact ⟨k + 1, out ++ [word], [], by go_num, rfl, by omega, by omega, by simp, by rw [List.length_append, List.length_singleton]; omega, HF.out, HO2.out, HB2.out⟩
              case measure => omega
      · have HS : Hid (sepX c = false) := by show _ = _; unfold sepX; rw [HX.out]; exact decide_eq_false hs
        have e1 : ((x : Int) == 32) = false := beq_eq_false_iff_ne.2 (by omega)
        have e2 : ((x : Int) == 95) = false := beq_eq_false_iff_ne.2 (by omega)
        have e3 : ((x : Int) == 45) = false := beq_eq_false_iff_ne.2 (by omega)
        clear hs
        cases hq : ltr c with
        | false =>
          have HF : Hid (R = none) := by show _ = _; rw [HD.out]; exact pt_bad HS.out hq
          have HQ := Lib.hid hq
          clear hq HD
          go_wp2_with fail
          refine (cL.out false _ HQ.out).mono ?_
          rintro e w1 ⟨rfl, hw1⟩
          obtain rfl := hw1.symm
          go_wp2
          go_ret2
          exact PtPost.no HF.out HB.out rfl
        | true =>
          have HF : Hid (R = pt out (word ++ [c]) (l.drop (k + 1))) := by show _ = _; rw [HD.out]; exact pt_let HS.out hq
          have HQ := Lib.hid hq
          have hcat : (txt word).size + (txt [c]).size ≤ 2000000 := by rw [txt_size, txt_size]; simp; omega
          have happ := txt_append word [c]
          have hk1 : ((k : Int) + 1).toNat = k + 1 := by omega
          clear hq HD
          by_cases hc : x ≤ 90
          · by_cases hw0 : word = []
            · have he : ((txt word).toList == ([] : List UInt8)) = true := by rw [hw0, txt_toList]; rfl
              have he2 : ((txt word).toList != ([] : List UInt8)) = false := by rw [hw0, txt_toList]; rfl
              clear hw0
              go_wp2_with fail
              refine (cL.out true _ HQ.out).mono ?_
              rintro e w1 ⟨rfl, hw1⟩
              obtain rfl := hw1.symm
              go_wp2
              go_roundg gk
              case rel => exact ⟨k + 1, out, word ++ [c], by go_num, by first | rfl | rw [happ], by omega, by omega, by rw [List.length_append, List.length_singleton]; omega, by omega, HF.out, HO.out, HB.out⟩
              case measure => omega
            · have he : ((txt word).toList == ([] : List UInt8)) = false := by rw [txt_toList]; exact beq_eq_false_iff_ne.2 hw0
              have he2 : ((txt word).toList != ([] : List UInt8)) = true := by rw [txt_toList]; simp [hw0]
              clear hw0
              go_wp2_with fail
              refine (cL.out true _ HQ.out).mono ?_
              rintro e w1 ⟨rfl, hw1⟩
              obtain rfl := hw1.symm
              go_wp2
              go_roundg gk
              case rel => exact ⟨k + 1, out, word ++ [c], by go_num, by first | rfl | rw [happ], by omega, by omega, by rw [List.length_append, List.length_singleton]; omega, by omega, HF.out, HO.out, HB.out⟩
              case measure => omega
          · go_wp2_with fail
            refine (cL.out true _ HQ.out).mono ?_
            rintro e w1 ⟨rfl, hw1⟩
            obtain rfl := hw1.symm
            go_wp2
            go_roundg gk
            case rel => exact ⟨k + 1, out, word ++ [c], by go_num, by first | rfl | rw [happ], by omega, by omega, by rw [List.length_append, List.length_singleton]; omega, by omega, HF.out, HO.out, HB.out⟩
            case measure => omega
    · have HF0 : Hid (R = pt out word []) := by show _ = _; rw [HR.out, List.drop_eq_nil_of_le (by have := HN.out; omega)]
      clear HR
      by_cases hw0 : word = []
      · have HF : Hid (R = none) := by show _ = _; rw [HF0.out, hw0]; rfl
        have he : ((txt word).toList == ([] : List UInt8)) = true := by rw [hw0, txt_toList]; rfl
        clear hw0
        go_wp2
        go_ret2
        exact PtPost.no HF.out HB.out rfl
      · have HF : Hid (R = some (out ++ [word])) := by show _ = _; rw [HF0.out]; exact pt_nil hw0
        have he : ((txt word).toList == ([] : List UInt8)) = false := by rw [txt_toList]; exact beq_eq_false_iff_ne.2 hw0
        clear hw0
        go_wp2_with (at_builtin; refine wpList_app1 rfl _ _ 22 9 rfl i0 (.string ⟨#[]⟩) 16 Tryd.underlying22 hi hz0 hz1 hz2 rfl w.heap.size _ out.length _ rfl HO.out (.string (txt word)) rfl rfl (by omega) (by omega) hbs ?_)
        intro ao2 cap2 w2 hown2 hb2 _
        have HO2 : Hid (w2.ownsRow w.heap.size 9 1 (.slice ao2 (out ++ [word]).length cap2) (out ++ [word]).length (strsV (out ++ [word]))) := by
          show World.ownsRow _ _ _ _ _ _ _
          rw [List.length_append, strsV_snoc]
          exact hown2
        have HB2 := Lib.hid (HB.out.trans hb2)
        clear hown2 hb2
        go_wp2
        go_ret2
        have h := PtPost.yes HF.out HB2.out HO2.out
        rw [List.length_append] at h
        exact h

end Go.Proofs.YthanbbflemkomaaDoor
