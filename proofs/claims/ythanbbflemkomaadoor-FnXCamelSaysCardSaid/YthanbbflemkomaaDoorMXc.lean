/- The reference of camel case: spec.XCamel at any text. -/
import Derived.Test.YthanbbflemkomaaDoorMPart
namespace Go.Proofs.YthanbbflemkomaaDoor
open Go.RowKit U8
open Go.Lib hiding intOf

def xres (g : Bool) (l : List UInt8) : List UInt8 × Int :=
  match pt [] [] l with
  | none => ([], 2)
  | some ws => if okW ws then (xcs g ws, 1) else ([], 2)
theorem pt_szs : ∀ (rest word : List UInt8) (out ws : List (List UInt8)), pt out word rest = some ws → szs ws + ws.length ≤ szs out + out.length + word.length + rest.length + 1
  | [], word, out, ws, h => by
    unfold pt at h
    split at h
    · cases h
    · cases h
      rw [szs_app, List.length_append]
      simp [szs]
      omega
  | c :: r, word, out, ws, h => by
    unfold pt at h
    split at h
    · split at h
      · cases h
      · have := pt_szs r [] (out ++ [word]) ws h
        rw [szs_app, List.length_append] at this
        simp [szs] at this ⊢
        omega
    · split at h
      · have := pt_szs r (word ++ [c]) out ws h
        rw [List.length_append] at this
        simp at this ⊢
        omega
      · cases h
theorem pt_ne : ∀ (rest word : List UInt8) (out ws : List (List UInt8)), (∀ x ∈ out, x ≠ []) → pt out word rest = some ws → (∀ x ∈ ws, x ≠ []) ∧ ws ≠ []
  | [], word, out, ws, ho, h => by
    unfold pt at h
    split at h
    · cases h
    · rename_i h0
      cases h
      refine ⟨fun x hx => ?_, by simp⟩
      rcases List.mem_append.1 hx with h1 | h1
      · exact ho x h1
      · simp at h1; rw [h1]; exact h0
  | c :: r, word, out, ws, ho, h => by
    unfold pt at h
    split at h
    · split at h
      · cases h
      · rename_i h0
        refine pt_ne r [] (out ++ [word]) ws (fun x hx => ?_) h
        rcases List.mem_append.1 hx with h1 | h1
        · exact ho x h1
        · simp at h1; rw [h1]; simp at h0; exact h0.1
    · split at h
      · exact pt_ne r (word ++ [c]) out ws ho h
      · cases h
theorem xw_len (g : Bool) (x : List UInt8) : (xw g x).length = x.length := by
  unfold xw
  split
  · rw [show ∀ l : List UInt8, (tit l).length = l.length from fun l => by cases l <;> rfl, List.length_map]
  · rw [List.length_map]
theorem xw_get (g : Bool) (x : List UInt8) (j : Nat) (c : UInt8) (h : x[j]? = some c) : (xw g x).take (j + 1) = (xw g x).take j ++ [if decide (j = 0) && g then toUp (toLo c) else toLo c] := by
  rw [List.take_add_one]
  congr 1
  cases x with
  | nil => cases h
  | cons y x =>
    cases j with
    | zero =>
      have hc : y = c := by simpa using h
      subst hc
      cases g <;> rfl
    | succ j =>
      have hc : x[j]? = some c := by simpa using h
      cases g <;> simp [xw, tit, hc]
theorem xcs_snoc (g : Bool) (ws : List (List UInt8)) (x : List UInt8) : xcs g (ws ++ [x]) = xcs g ws ++ xw (decide (0 < ws.length) || g) x := by
  cases ws with
  | nil => simp [xcs]
  | cons y ws => simp [xcs]
theorem xcs_len (g : Bool) (ws : List (List UInt8)) : (xcs g ws).length = szs ws := by
  cases ws with
  | nil => rfl
  | cons y ws =>
    have h : ∀ l : List (List UInt8), (l.flatMap (xw true)).length = szs l := by
      intro l
      induction l with
      | nil => rfl
      | cons x l ih => rw [List.flatMap_cons, List.length_append, ih, xw_len, szs_cons]
    unfold xcs
    rw [List.length_append, xw_len, h, szs_cons]
theorem run_first (c : UInt8) (l : List UInt8) (x : Nat) (hx : c.toNat = x) : ∀ W, (Instr.index 9 (.string (txt (c :: l))) (.int .i64 0)).run Tryd.prog W = .ok (.int .u8 x) W := run_at (c :: l) 0 c x rfl hx
theorem run_one (b : UInt8) (x : Nat) (hx : b.toNat = x) : ∀ W : World, (convert 39 9 (.slice (some ⟨W.heap.size, 0, none⟩) 1 1)).run Tryd.prog (W.alloc (.cells #[.int .u8 x] 5)) = .ok (.string (txt [b])) (W.alloc (.cells #[.int .u8 x] 5)) := fun W => by
  subst hx
  refine run_bytes_text [b] rfl fun j hj => ?_
  obtain rfl : j = 0 := by omega
  simp [byteCells]
theorem one_is (x : List UInt8) (q : Bool) (w : World) (hx : x.length ≤ 1000000) (hq : oneB x = q) :
    Calls Tryd.prog 47 #[.string (txt x)] w fun e w' => e = .returned (.bool q) ∧ ∃ m, w' = w.drewN m := hq ▸ one_any x w hx

set_option maxHeartbeats 12800000 in
set_option maxRecDepth 100000 in
theorem sxcamel_any (l : List UInt8) (g : Bool) (w : World) (hl : l.length ≤ 900000) :
    Calls Tryd.prog 21 #[.string (txt l), .bool g] w fun e w' => e = .returned (.tuple #[.string (txt (xres g l).1), .int .i64 (xres g l).2]) ∧ Below w.heap.size w w' := by
  have CP := Lib.hid (parted_any l w (by omega))
  cases hp : pt [] [] l with
  | none =>
    have hr : xres g l = ([], 2) := by unfold xres; rw [hp]
    rw [hp] at CP
    rw [hr]
    clear hp hr
    go_enter Tryd.func21, Tryd.ntmps21
    go_wp2_with fail
    refine CP.out.mono ?_
    rintro e w1 ⟨hb1, he, _⟩
    obtain rfl := he rfl
    clear he
    go_wp2
    go_ret2
    exact ⟨rfl, hb1⟩
  | some ws =>
  obtain ⟨hne, hws⟩ := pt_ne l [] [] ws (by simp) hp
  have hsz := pt_szs l [] [] ws hp
  have hsz2 : szs ws + ws.length ≤ 900001 := by simp [szs] at hsz; simp [szs]; omega
  have hr : xres g l = if okW ws then (xcs g ws, 1) else ([], 2) := by unfold xres; rw [hp]
  rw [hp] at CP
  obtain ⟨RS, hRS⟩ : ∃ RS, xres g l = RS := ⟨_, rfl⟩
  rw [hRS] at hr ⊢
  have HRS := Lib.hid hr
  have HNE := Lib.hid hne
  clear hp hr hRS hne hsz
  match ws, hws with
  | h :: wt, _ =>
  match h, HNE.out h (by simp) with
  | z :: ht, _ =>
  obtain ⟨Z, hZ⟩ : ∃ Z, z.toNat = Z := ⟨_, rfl⟩
  have hz0 := run_first z ht Z hZ
  have HZ := Lib.hid hZ
  clear hZ
  obtain ⟨ws, hws⟩ : ∃ ws, (z :: ht) :: wt = ws := ⟨_, rfl⟩
  have hc0 : ws[0]? = some (z :: ht) := by rw [← hws]; rfl
  have HSB : Hid (∀ (y : UInt8) (x : List UInt8), sameB ws (y :: x) = (decide (y.toNat < 97) == decide (Z < 97))) := by
    show ∀ _ _, _
    intro y x
    unfold sameB
    rw [← hws, ← HZ.out]; rfl
  rw [hws] at CP HRS HNE hsz2
  have hwl : 1 ≤ ws.length := by rw [← hws]; simp
  clear hws
  have HC0 := Lib.hid hc0
  clear hc0
  go_enter Tryd.func21, Tryd.ntmps21
  go_wp2_with fail
  refine CP.out.mono ?_
  rintro e w1 ⟨hb1, hno, hyes⟩
  obtain ⟨ao, cap, he, hown⟩ := hyes ws rfl
  clear hno hyes
  have hT := tx_own hown
  subst he
  obtain ⟨_, _, e1, _, hx⟩ := hT
  cases e1
  obtain ⟨gb, ob, rfl, cz⟩ := hx 0 _ HC0.out
  rw [Nat.add_zero] at cz
  have HX := Lib.hid hx
  have HB1 := Lib.hid hb1
  have HCZ := Lib.hid cz
  have CS := Lib.hid fun (b : UInt8) (x : Nat) (W : World) (hx : b.toNat = x) => hx ▸ small_any b W
  clear hown hx hb1 cz
  go_wp2
  go_loopg [8, 9, 10, 22] (ws.length + 1) (fun gk v8 v9 v10 v22 wr => ∃ (k : Nat) (O : List UInt8), v22 = .int .i64 k ∧ v8 = .string (txt O) ∧ k ≤ ws.length ∧ ws.length - k < gk ∧ Hid (O = xcs g (ws.take k)) ∧ Hid (okW ws = (ws.drop k).all fun x => oneB x && sameB ws x) ∧ Hid (Below w1.heap.size w1 wr))
  case atStart => exact ⟨0, [], rfl, rfl, by omega, by omega, rfl, rfl, Below.refl _ _⟩
  case round =>
    obtain ⟨k, O, rfl, rfl, hk, hg, HO, HK, HB⟩ := hrel
    have cz : wr.cell? ⟨gb, ob, none⟩ = some (.string (txt (z :: ht))) := (HB.out.cell (World.block_lt_of_cell? w1 _ HCZ.out)).trans HCZ.out
    have HBF := Lib.hid (HB1.out.trans (HB.out.mono HB1.out.size))
    by_cases hlt : k < ws.length
    · obtain ⟨g1, rfl⟩ : ∃ m, gk = m + 1 := ⟨gk - 1, by omega⟩
      have hxk := List.getElem?_eq_getElem hlt
      have hd := List.drop_eq_getElem_cons hlt
      have htk := List.take_succ_eq_append_getElem hlt
      generalize ws[k] = x at hxk hd htk
      obtain ⟨g3, o3, e3, cx0⟩ := HX.out k x hxk
      cases e3
      have cx : wr.cell? ⟨gb, ob + k, none⟩ = some (.string (txt x)) := (HB.out.cell (World.block_lt_of_cell? w1 _ cx0)).trans cx0
      have hxz := szs_le hxk
      have HK2 : Hid (okW ws = ((oneB x && sameB ws x) && (ws.drop (k + 1)).all fun x => oneB x && sameB ws x)) := by show _ = _; rw [HK.out, hd]; rfl
      have HOL : Hid (O.length ≤ 900001) := by
        show _ ≤ _
        rw [HO.out, xcs_len]
        have := szs_take ws k
        omega
      have HTK : Hid (xcs g (ws.take (k + 1)) = O ++ xw (decide (0 < k) || g) x) := by
        show _ = _
        rw [htk, xcs_snoc, HO.out, List.length_take, Nat.min_eq_left (by omega)]
      have hxne := HNE.out x (List.mem_of_getElem? hxk)
      clear hxk hd htk cx0 HK HO
      match x, hxne with
      | y :: x, _ =>
      obtain ⟨Y, hY⟩ : ∃ Y, y.toNat = Y := ⟨_, rfl⟩
      have hy0 := run_first y x Y hY
      have HY := Lib.hid hY
      have hS := HSB.out y x
      rw [hY] at hS
      have HS := Lib.hid hS
      have hlx : (y :: x).length = x.length + 1 := rfl
      have hts := txt_size (y :: x)
      clear hY hS
      go_upto_region 8 with fail
      cases ho : oneB (y :: x) with
      | false =>
        have CO := Lib.hid fun W => one_is (y :: x) false W (by omega) ho
        have HF : Hid (RS = ([], 2)) := by show _ = _; rw [HRS.out, HK2.out, ho]; simp
        clear ho HK2
        go_quiet ((go_at_call 47; exact Calls.quiet_of (CO.out _)))
        go_wp2
        go_ret2
        exact ⟨by rw [HF.out]; rfl, ⟨HBF.out.os, HBF.out.tape, HBF.out.output, HBF.out.size, HBF.out.block⟩⟩
      | true =>
        have CO := Lib.hid fun W => one_is (y :: x) true W (by omega) ho
        have HK3 : Hid (okW ws = ((decide (Y < 97) == decide (Z < 97)) && (ws.drop (k + 1)).all fun x => oneB x && sameB ws x)) := by show _ = _; rw [HK2.out, ho, HS.out]; rfl
        clear ho HK2
        by_cases hy1 : (Y : Int) < 97
        · by_cases hz1 : (Z : Int) < 97
          · have HK4 : Hid (okW ws = ((ws.drop (k + 1)).all fun x => oneB x && sameB ws x)) := by
              show _ = _
              rw [HK3.out, decide_eq_true (p := Y < 97) (by omega), decide_eq_true (p := Z < 97) (by omega)]; rfl
            clear HK3
            go_quiet ((go_at_call 47; exact Calls.quiet_of (CO.out _)))
            go_wp2
            have HBq : Hid (Below w1.heap.size w1 (wr.drewN nq)) := ⟨HB.out.os, HB.out.tape, HB.out.output, HB.out.size, HB.out.block⟩
            generalize wr.drewN nq = wq at *
            rename World => v9
            obtain ⟨K, hK⟩ : ∃ K : Int, (k : Int) = K := ⟨_, rfl⟩
            have hK0 : 0 ≤ K := by omega
            have hK1 : K ≤ 900001 := by omega
            obtain ⟨GG, hGG⟩ : ∃ GG, (decide (0 < k) || g) = GG := ⟨_, rfl⟩
            have HGG : Hid (GG = (decide (0 < K) || g)) := by
              show _ = _
              rw [← hGG, ← hK]
              exact congrArg (· || g) (decide_eq_decide.2 (by omega))
            have hTK := HTK.out
            rw [hGG] at hTK
            obtain ⟨XW, hXW⟩ : ∃ XW, xw GG (y :: x) = XW := ⟨_, rfl⟩
            have hXL : XW.length = x.length + 1 := by rw [← hXW, xw_len, hlx]
            have HXL := Lib.hid hXL
            have HGX : Hid (∀ (j : Nat) (c : UInt8), (y :: x)[j]? = some c → XW.take (j + 1) = XW.take j ++ [if decide (j = 0) && GG then toUp (toLo c) else toLo c]) := by
              show ∀ _ _, _
              intro j c h
              rw [← hXW]
              exact xw_get GG (y :: x) j c h
            rw [hXW] at hTK
            have HTK2 := Lib.hid hTK
            rw [hK]
            have HKK := Lib.hid hK
            clear hTK HTK hXW hXL hGG hK
            go_loopg [8, 11, 12] (x.length + 2) (fun gk v8 v11 v12 wr => ∃ (j : Nat), v11 = .int .i64 j ∧ v8 = .string (txt (O ++ XW.take j)) ∧ j ≤ x.length + 1 ∧ x.length + 1 - j < gk ∧ Hid (Below w1.heap.size w1 wr))
            case atStart => exact ⟨0, rfl, by rw [List.take_zero, List.append_nil], by omega, by omega, HBq.out⟩
            case round =>
              obtain ⟨j, rfl, rfl, hj, hgj, HBj⟩ := hrel
              have hbs := HBj.out.size
              have hol := HOL.out
              have htl : (XW.take j).length ≤ j := by rw [List.length_take]; omega
              have hcat : (txt (O ++ XW.take j)).size ≤ 2000000 := by rw [txt_size, List.length_append]; omega
              by_cases hjl : j < x.length + 1
              · obtain ⟨g2, rfl⟩ : ∃ m, gk = m + 1 := ⟨gk - 1, by omega⟩
                have hb := List.getElem?_eq_getElem (l := y :: x) (i := j) (by rw [hlx]; exact hjl)
                generalize (y :: x)[j]'(by rw [hlx]; exact hjl) = c at hb
                have hget := HGX.out j c hb
                have hby := run_byte (y :: x) j c hb
                have CSm := Lib.hid fun W => small_any c W
                have CBg := Lib.hid fun W => big_any (toLo c) W
                have hap := fun b => txt_append (O ++ XW.take j) [b]
                have HAP := Lib.hid hap
                have HGET := Lib.hid hget
                clear hb hget hap
                by_cases hbig : j = 0 ∧ (0 < K ∨ g = true)
                · obtain ⟨hj0, hbg⟩ := hbig
                  have e0 : ((j : Int) == 0) = true := by rw [hj0]; rfl
                  have HST : Hid (txt (O ++ XW.take j) ++ txt [toUp (toLo c)] = txt (O ++ XW.take (j + 1))) := by
                    show _ = _
                    rw [HAP.out, HGET.out, List.append_assoc]
                    rcases hbg with hbg | hbg
                    · rw [HGG.out, decide_eq_true hbg, decide_eq_true hj0]; try rfl
                    · rw [HGG.out, hbg, Bool.or_true, decide_eq_true hj0]; try rfl
                  obtain ⟨Q, hQ⟩ : ∃ Q, (toUp (toLo c)).toNat = Q := ⟨_, rfl⟩
                  have hq1 := run_one (toUp (toLo c)) Q hQ
                  rw [hQ] at CBg
                  have hcat1 : (txt (O ++ XW.take j)).size + (txt [toUp (toLo c)]).size ≤ 3000000 := by rw [txt_size [toUp (toLo c)]]; simp only [List.length_singleton]; omega
                  clear hQ HAP HGET
                  have hor : decide (0 < K) = true ∨ (decide (0 < K) = false ∧ g = true) := by
                    by_cases h0 : 0 < K
                    · exact .inl (decide_eq_true (by omega))
                    · rcases hbg with h | h
                      · exact absurd h h0
                      · exact .inr ⟨decide_eq_false (by omega), h⟩
                  have HJ0 := Lib.hid hj0
                  clear hj0
                  rcases hor with hk0 | ⟨hk0, hgt⟩
                  · clear hbg
                    go_wp2_with fail
                    refine (CSm.out _).mono ?_
                    rintro e wa ⟨rfl, hwa⟩
                    obtain rfl := hwa.symm
                    go_wp2_with fail
                    refine (CBg.out _).mono ?_
                    rintro e wa ⟨rfl, hwa⟩
                    obtain rfl := hwa.symm
                    go_wp2
                    go_roundg g2
                    case rel => exact ⟨j + 1, by go_num, congrArg Value.string HST.out, by omega, by omega, HBj.out.alloc hbs _⟩
                    case measure => omega
                  · subst hgt
                    clear hbg
                    go_wp2_with fail
                    refine (CSm.out _).mono ?_
                    rintro e wa ⟨rfl, hwa⟩
                    obtain rfl := hwa.symm
                    go_wp2_with fail
                    refine (CBg.out _).mono ?_
                    rintro e wa ⟨rfl, hwa⟩
                    obtain rfl := hwa.symm
                    go_wp2
                    go_roundg g2
                    case rel => exact ⟨j + 1, by go_num, congrArg Value.string HST.out, by omega, by omega, HBj.out.alloc hbs _⟩
                    case measure => omega
                · have HST : Hid (txt (O ++ XW.take j) ++ txt [toLo c] = txt (O ++ XW.take (j + 1))) := by
                    show _ = _
                    rw [HAP.out, HGET.out, List.append_assoc]
                    have : (decide (j = 0) && GG) = false := by
                      rw [HGG.out, Bool.eq_false_iff]
                      intro h
                      simp at h
                      exact hbig h
                    rw [this]; try rfl
                  obtain ⟨Q, hQ⟩ : ∃ Q, (toLo c).toNat = Q := ⟨_, rfl⟩
                  have hq1 := run_one (toLo c) Q hQ
                  rw [hQ] at CSm
                  have hcat1 : (txt (O ++ XW.take j)).size + (txt [toLo c]).size ≤ 3000000 := by rw [txt_size [toLo c]]; simp only [List.length_singleton]; omega
                  clear hQ HAP HGET CBg
                  by_cases hj0 : j = 0
                  · have e0 : ((j : Int) == 0) = true := by rw [hj0]; rfl
                    have hk0 : decide (0 < K) = false := decide_eq_false (fun h => hbig ⟨hj0, .inl h⟩)
                    have hg0 : g = false := by
                      cases hgg : g with
                      | false => rfl
                      | true => exact absurd ⟨hj0, .inr hgg⟩ hbig
                    subst hg0
                    clear hbig hj0
                    go_wp2_with fail
                    refine (CSm.out _).mono ?_
                    rintro e wa ⟨rfl, hwa⟩
                    obtain rfl := hwa.symm
                    go_wp2
                    go_roundg g2
                    case rel => exact ⟨j + 1, by go_num, congrArg Value.string HST.out, by omega, by omega, HBj.out.alloc hbs _⟩
                    case measure => omega
                  · have hj1 : ((j : Int) == 0) = false := beq_eq_false_iff_ne.2 (by omega)
                    clear hbig hj0
                    go_wp2_with fail
                    refine (CSm.out _).mono ?_
                    rintro e wa ⟨rfl, hwa⟩
                    obtain rfl := hwa.symm
                    go_wp2
                    go_roundg g2
                    case rel => exact ⟨j + 1, by go_num, congrArg Value.string HST.out, by omega, by omega, HBj.out.alloc hbs _⟩
                    case measure => omega
              · have HOF : Hid (O ++ XW.take j = xcs g (ws.take (k + 1))) := by
                  show _ = _
                  rw [HTK2.out, List.take_of_length_le (by rw [HXL.out]; omega)]
                go_wp2
                go_roundg g1
                case rel => exact ⟨k + 1, _, by rw [← HKK.out]; go_num, rfl, by omega, by omega, HOF.out, HK4.out, HBj.out⟩
                case measure => omega
          · have HF : Hid (RS = ([], 2)) := by show _ = _; rw [HRS.out, HK3.out, decide_eq_true (p := Y < 97) (by omega), decide_eq_false (p := Z < 97) (by omega)]; simp
            clear HK3
            go_quiet ((go_at_call 47; exact Calls.quiet_of (CO.out _)))
            go_wp2
            go_ret2
            exact ⟨by rw [HF.out]; rfl, ⟨HBF.out.os, HBF.out.tape, HBF.out.output, HBF.out.size, HBF.out.block⟩⟩
        · by_cases hz1 : (Z : Int) < 97
          · have HF : Hid (RS = ([], 2)) := by show _ = _; rw [HRS.out, HK3.out, decide_eq_false (p := Y < 97) (by omega), decide_eq_true (p := Z < 97) (by omega)]; simp
            clear HK3
            go_quiet ((go_at_call 47; exact Calls.quiet_of (CO.out _)))
            go_wp2
            go_ret2
            exact ⟨by rw [HF.out]; rfl, ⟨HBF.out.os, HBF.out.tape, HBF.out.output, HBF.out.size, HBF.out.block⟩⟩
          · have HK4 : Hid (okW ws = ((ws.drop (k + 1)).all fun x => oneB x && sameB ws x)) := by
              show _ = _
              rw [HK3.out, decide_eq_false (p := Y < 97) (by omega), decide_eq_false (p := Z < 97) (by omega)]; rfl
            clear HK3
            go_quiet ((go_at_call 47; exact Calls.quiet_of (CO.out _)))
            go_wp2
            have HBq : Hid (Below w1.heap.size w1 (wr.drewN nq)) := ⟨HB.out.os, HB.out.tape, HB.out.output, HB.out.size, HB.out.block⟩
            generalize wr.drewN nq = wq at *
            rename World => v9
            obtain ⟨K, hK⟩ : ∃ K : Int, (k : Int) = K := ⟨_, rfl⟩
            have hK0 : 0 ≤ K := by omega
            have hK1 : K ≤ 900001 := by omega
            obtain ⟨GG, hGG⟩ : ∃ GG, (decide (0 < k) || g) = GG := ⟨_, rfl⟩
            have HGG : Hid (GG = (decide (0 < K) || g)) := by
              show _ = _
              rw [← hGG, ← hK]
              exact congrArg (· || g) (decide_eq_decide.2 (by omega))
            have hTK := HTK.out
            rw [hGG] at hTK
            obtain ⟨XW, hXW⟩ : ∃ XW, xw GG (y :: x) = XW := ⟨_, rfl⟩
            have hXL : XW.length = x.length + 1 := by rw [← hXW, xw_len, hlx]
            have HXL := Lib.hid hXL
            have HGX : Hid (∀ (j : Nat) (c : UInt8), (y :: x)[j]? = some c → XW.take (j + 1) = XW.take j ++ [if decide (j = 0) && GG then toUp (toLo c) else toLo c]) := by
              show ∀ _ _, _
              intro j c h
              rw [← hXW]
              exact xw_get GG (y :: x) j c h
            rw [hXW] at hTK
            have HTK2 := Lib.hid hTK
            rw [hK]
            have HKK := Lib.hid hK
            clear hTK HTK hXW hXL hGG hK
            go_loopg [8, 11, 12] (x.length + 2) (fun gk v8 v11 v12 wr => ∃ (j : Nat), v11 = .int .i64 j ∧ v8 = .string (txt (O ++ XW.take j)) ∧ j ≤ x.length + 1 ∧ x.length + 1 - j < gk ∧ Hid (Below w1.heap.size w1 wr))
            case atStart => exact ⟨0, rfl, by rw [List.take_zero, List.append_nil], by omega, by omega, HBq.out⟩
            case round =>
              obtain ⟨j, rfl, rfl, hj, hgj, HBj⟩ := hrel
              have hbs := HBj.out.size
              have hol := HOL.out
              have htl : (XW.take j).length ≤ j := by rw [List.length_take]; omega
              have hcat : (txt (O ++ XW.take j)).size ≤ 2000000 := by rw [txt_size, List.length_append]; omega
              by_cases hjl : j < x.length + 1
              · obtain ⟨g2, rfl⟩ : ∃ m, gk = m + 1 := ⟨gk - 1, by omega⟩
                have hb := List.getElem?_eq_getElem (l := y :: x) (i := j) (by rw [hlx]; exact hjl)
                generalize (y :: x)[j]'(by rw [hlx]; exact hjl) = c at hb
                have hget := HGX.out j c hb
                have hby := run_byte (y :: x) j c hb
                have CSm := Lib.hid fun W => small_any c W
                have CBg := Lib.hid fun W => big_any (toLo c) W
                have hap := fun b => txt_append (O ++ XW.take j) [b]
                have HAP := Lib.hid hap
                have HGET := Lib.hid hget
                clear hb hget hap
                by_cases hbig : j = 0 ∧ (0 < K ∨ g = true)
                · obtain ⟨hj0, hbg⟩ := hbig
                  have e0 : ((j : Int) == 0) = true := by rw [hj0]; rfl
                  have HST : Hid (txt (O ++ XW.take j) ++ txt [toUp (toLo c)] = txt (O ++ XW.take (j + 1))) := by
                    show _ = _
                    rw [HAP.out, HGET.out, List.append_assoc]
                    rcases hbg with hbg | hbg
                    · rw [HGG.out, decide_eq_true hbg, decide_eq_true hj0]; try rfl
                    · rw [HGG.out, hbg, Bool.or_true, decide_eq_true hj0]; try rfl
                  obtain ⟨Q, hQ⟩ : ∃ Q, (toUp (toLo c)).toNat = Q := ⟨_, rfl⟩
                  have hq1 := run_one (toUp (toLo c)) Q hQ
                  rw [hQ] at CBg
                  have hcat1 : (txt (O ++ XW.take j)).size + (txt [toUp (toLo c)]).size ≤ 3000000 := by rw [txt_size [toUp (toLo c)]]; simp only [List.length_singleton]; omega
                  clear hQ HAP HGET
                  have hor : decide (0 < K) = true ∨ (decide (0 < K) = false ∧ g = true) := by
                    by_cases h0 : 0 < K
                    · exact .inl (decide_eq_true (by omega))
                    · rcases hbg with h | h
                      · exact absurd h h0
                      · exact .inr ⟨decide_eq_false (by omega), h⟩
                  have HJ0 := Lib.hid hj0
                  clear hj0
                  rcases hor with hk0 | ⟨hk0, hgt⟩
                  · clear hbg
                    go_wp2_with fail
                    refine (CSm.out _).mono ?_
                    rintro e wa ⟨rfl, hwa⟩
                    obtain rfl := hwa.symm
                    go_wp2_with fail
                    refine (CBg.out _).mono ?_
                    rintro e wa ⟨rfl, hwa⟩
                    obtain rfl := hwa.symm
                    go_wp2
                    go_roundg g2
                    case rel => exact ⟨j + 1, by go_num, congrArg Value.string HST.out, by omega, by omega, HBj.out.alloc hbs _⟩
                    case measure => omega
                  · subst hgt
                    clear hbg
                    go_wp2_with fail
                    refine (CSm.out _).mono ?_
                    rintro e wa ⟨rfl, hwa⟩
                    obtain rfl := hwa.symm
                    go_wp2_with fail
                    refine (CBg.out _).mono ?_
                    rintro e wa ⟨rfl, hwa⟩
                    obtain rfl := hwa.symm
                    go_wp2
                    go_roundg g2
                    case rel => exact ⟨j + 1, by go_num, congrArg Value.string HST.out, by omega, by omega, HBj.out.alloc hbs _⟩
                    case measure => omega
                · have HST : Hid (txt (O ++ XW.take j) ++ txt [toLo c] = txt (O ++ XW.take (j + 1))) := by
                    show _ = _
                    rw [HAP.out, HGET.out, List.append_assoc]
                    have : (decide (j = 0) && GG) = false := by
                      rw [HGG.out, Bool.eq_false_iff]
                      intro h
                      simp at h
                      exact hbig h
                    rw [this]; try rfl
                  obtain ⟨Q, hQ⟩ : ∃ Q, (toLo c).toNat = Q := ⟨_, rfl⟩
                  have hq1 := run_one (toLo c) Q hQ
                  rw [hQ] at CSm
                  have hcat1 : (txt (O ++ XW.take j)).size + (txt [toLo c]).size ≤ 3000000 := by rw [txt_size [toLo c]]; simp only [List.length_singleton]; omega
                  clear hQ HAP HGET CBg
                  by_cases hj0 : j = 0
                  · have e0 : ((j : Int) == 0) = true := by rw [hj0]; rfl
                    have hk0 : decide (0 < K) = false := decide_eq_false (fun h => hbig ⟨hj0, .inl h⟩)
                    have hg0 : g = false := by
                      cases hgg : g with
                      | false => rfl
                      | true => exact absurd ⟨hj0, .inr hgg⟩ hbig
                    subst hg0
                    clear hbig hj0
                    go_wp2_with fail
                    refine (CSm.out _).mono ?_
                    rintro e wa ⟨rfl, hwa⟩
                    obtain rfl := hwa.symm
                    go_wp2
                    go_roundg g2
                    case rel => exact ⟨j + 1, by go_num, congrArg Value.string HST.out, by omega, by omega, HBj.out.alloc hbs _⟩
                    case measure => omega
                  · have hj1 : ((j : Int) == 0) = false := beq_eq_false_iff_ne.2 (by omega)
                    clear hbig hj0
                    go_wp2_with fail
                    refine (CSm.out _).mono ?_
                    rintro e wa ⟨rfl, hwa⟩
                    obtain rfl := hwa.symm
                    go_wp2
                    go_roundg g2
                    case rel => exact ⟨j + 1, by go_num, congrArg Value.string HST.out, by omega, by omega, HBj.out.alloc hbs _⟩
                    case measure => omega
              · have HOF : Hid (O ++ XW.take j = xcs g (ws.take (k + 1))) := by
                  show _ = _
                  rw [HTK2.out, List.take_of_length_le (by rw [HXL.out]; omega)]
                go_wp2
                go_roundg g1
                case rel => exact ⟨k + 1, _, by rw [← HKK.out]; go_num, rfl, by omega, by omega, HOF.out, HK4.out, HBj.out⟩
                case measure => omega
    · have HF : Hid (RS = (xcs g ws, 1)) := by
        show _ = _
        rw [HRS.out, HK.out, List.drop_eq_nil_of_le (by omega)]; rfl
      have HOF : Hid (O = xcs g ws) := by show _ = _; rw [HO.out, List.take_of_length_le (by omega)]
      clear HK HO
      go_wp2
      go_ret2
      exact ⟨by rw [HF.out, ← HOF.out]; rfl, HBF.out⟩

end Go.Proofs.YthanbbflemkomaaDoor
