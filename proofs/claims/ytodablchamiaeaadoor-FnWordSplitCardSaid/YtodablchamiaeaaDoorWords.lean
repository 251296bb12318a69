/- Words of a text of ASCII: the plain law, and the contracts. -/
import Derived.Test.YtodablchamiaeaaDoorSwap
namespace Go.Proofs.YtodablchamiaeaaDoor
open Go.RowKit U8
open Go.Lib hiding intOf

def letN (r : Nat) : Bool := decide ((65 ≤ r ∧ r ≤ 90) ∨ (97 ≤ r ∧ r ≤ 122))
def inN (r : Nat) : Bool := letN r || decide (r = 39 ∨ r = 45)
/-- The words: outside a word, or inside the one that is begun. -/
def ws : Option (List Nat) → List Nat → List (List Nat)
  | none, [] => []
  | some a, [] => [a]
  | none, r :: rs => if letN r then ws (some [r]) rs else ws none rs
  | some a, r :: rs => if inN r then ws (some (a ++ [r])) rs else a :: ws none rs
theorem ws_nil : ws none [] = [] := rfl
theorem ws_end (a : List Nat) : ws (some a) [] = [a] := rfl
theorem ws_begin {r : Nat} (h : letN r = true) (rs : List Nat) : ws none (r :: rs) = ws (some [r]) rs := by rw [ws, if_pos h]
theorem ws_skip {r : Nat} (h : letN r = false) (rs : List Nat) : ws none (r :: rs) = ws none rs := by rw [ws, if_neg (by simp [h])]
theorem ws_on (a : List Nat) {r : Nat} (h : inN r = true) (rs : List Nat) : ws (some a) (r :: rs) = ws (some (a ++ [r])) rs := by rw [ws, if_pos h]
theorem ws_off (a : List Nat) {r : Nat} (h : inN r = false) (rs : List Nat) : ws (some a) (r :: rs) = a :: ws none rs := by rw [ws, if_neg (by simp [h])]
theorem inN_of {r : Nat} (h : letN r = true) : inN r = true := by unfold inN; rw [h]; rfl
theorem let_of_in {r : Nat} (h : inN r = false) : letN r = false := by unfold inN at h; cases e : letN r <;> simp_all
def strs (l : List (List Nat)) : List Value := l.map fun x => Value.string (txt (enc x))
theorem strs_app (a b : List (List Nat)) : strs (a ++ b) = strs a ++ strs b := by simp [strs]
theorem letL {r : Nat} (h : r < 128) : isLetterL (r : Int) = letN r := by
  unfold isLetterL isUpperL isLowerL letN
  by_cases a : 65 ≤ r ∧ r ≤ 90
  · rw [decide_eq_true (by omega), decide_eq_true (p := (65 ≤ r ∧ r ≤ 90) ∨ _) (.inl a)]; rfl
  · by_cases b : 97 ≤ r ∧ r ≤ 122
    · rw [decide_eq_true (p := ((97 : Int) ≤ r ∧ (r : Int) ≤ 122) ∨ _) (by omega), decide_eq_true (p := (65 ≤ r ∧ r ≤ 90) ∨ _) (.inr b)]; simp
    · rw [decide_eq_false (p := ((65 : Int) ≤ r ∧ (r : Int) ≤ 90) ∨ _) (by omega), decide_eq_false (p := ((97 : Int) ≤ r ∧ (r : Int) ≤ 122) ∨ _) (by omega), decide_eq_false (p := (r : Int) = 170 ∨ _) (by omega), decide_eq_false (p := (65 ≤ r ∧ r ≤ 90) ∨ _) (by omega)]; rfl
set_option maxRecDepth 100000 in
theorem alpha_any (r : Nat) (w : World) (h : r < 128) (hP : Props w) :
    Calls Tryd.prog 80 #[.int .i32 r] w fun e w' => e = .returned (.bool (letN r)) ∧ w' = w := by
  have cL := Tryd.unicode_IsLetter r w (by omega) hP
  rw [letL h] at cL
  obtain ⟨q, hq⟩ : ∃ q, letN r = q := ⟨_, rfl⟩
  rw [hq] at cL ⊢
  clear hq
  cases q
  · go_enter Tryd.func80, Tryd.ntmps80
    go_wp2_with (go_at_call 89; refine cL.mono ?_; rintro e w1 ⟨rfl, rfl⟩)
    go_ret
    exact ⟨rfl, rfl⟩
  · go_enter Tryd.func80, Tryd.ntmps80
    go_wp2_with (go_at_call 89; refine cL.mono ?_; rintro e w1 ⟨rfl, rfl⟩)
    go_ret
    exact ⟨rfl, rfl⟩
theorem letter_any (x : Nat) (w : World) (h : x < 256) :
    Calls Tryd.prog 35 #[.int .u8 x] w fun e w' => e = .returned (.bool (letN x)) ∧ w' = w := by
  by_cases a : x < 65
  · have e : letN x = false := by unfold letN; rw [decide_eq_false_iff_not]; omega
    rw [e]; clear e
    go_enter Tryd.func35, Tryd.ntmps35
    go_wp2
    go_ret
    exact ⟨ret_bool (by simp <;> omega), rfl⟩
  by_cases b : x ≤ 90
  · have e : letN x = true := by unfold letN; rw [decide_eq_true_eq]; omega
    rw [e]; clear e
    go_enter Tryd.func35, Tryd.ntmps35
    go_wp2
    go_ret
    exact ⟨ret_bool (by simp <;> omega), rfl⟩
  by_cases c : x < 97
  · have e : letN x = false := by unfold letN; rw [decide_eq_false_iff_not]; omega
    rw [e]; clear e
    go_enter Tryd.func35, Tryd.ntmps35
    go_wp2
    go_ret
    exact ⟨ret_bool (by simp <;> omega), rfl⟩
  by_cases d : x ≤ 122
  · have e : letN x = true := by unfold letN; rw [decide_eq_true_eq]; omega
    rw [e]; clear e
    go_enter Tryd.func35, Tryd.ntmps35
    go_wp2
    go_ret
    exact ⟨ret_bool (by simp <;> omega), rfl⟩
  · have e : letN x = false := by unfold letN; rw [decide_eq_false_iff_not]; omega
    rw [e]; clear e
    go_enter Tryd.func35, Tryd.ntmps35
    go_wp2
    go_ret
    exact ⟨ret_bool (by simp <;> omega), rfl⟩

theorem Tryd.infoS : (Tryd.prog.info? 9).map (fun i => (i.zero, i.size, i.bytes)) = some (some (.string ⟨#[]⟩), 1, 16) := by kernel_rfl

theorem strs_len (l : List (List Nat)) : (strs l).length = l.length := by simp [strs]
def slotW (a : Option (List Nat)) (rest : List Nat) (word pos inw : Value) (n : Nat) : Prop :=
  match a with
  | none => inw = .bool false ∧ (∃ u, word = .string u) ∧ ∃ q : Nat, pos = .int .i64 q ∧ q ≤ n
  | some a => inw = .bool true ∧ word = .string (txt (enc (a ++ rest))) ∧ pos = .int .i64 a.length ∧ a.length ≤ n ∧ asc a

theorem slot_on (a : List Nat) (r : Nat) (rest : List Nat) (pos : Value) (n : Nat) (h8 : r < 128) (hal : a.length ≤ n) (haa : asc a) (hp : pos = .int .i64 ((a.length : Int) + 1)) :
    slotW (some (a ++ [r])) rest (.string (txt (enc (a ++ r :: rest)))) pos (.bool true) (n + 1) := by
  refine ⟨rfl, by rw [List.append_assoc]; rfl, by rw [hp, List.length_append]; rfl, by rw [List.length_append, List.length_singleton]; omega, fun x hx => ?_⟩
  rcases List.mem_append.1 hx with h | h
  · exact haa x h
  · simp at h; omega

set_option maxHeartbeats 3200000 in
set_option maxRecDepth 100000 in
theorem wsplit_any (rs : List Nat) (w : World) (ha : asc rs) (hl : rs.length ≤ 1000000) (hT : Tabs w) (hP : Props w) :
    Calls Tryd.prog 62 #[.string (txt (enc rs))] w fun e w' => ∃ ao cap, e = .returned (.slice ao (ws none rs).length cap) ∧ w'.ownsRow w.heap.size 9 1 (.slice ao (ws none rs).length cap) (ws none rs).length (strs (ws none rs)) ∧ Below w.heap.size w w' := by
  obtain ⟨i0, hi, hz0, hz1, hz2⟩ := info_parts Tryd.infoS
  go_enter Tryd.func62, Tryd.ntmps62
  go_wp2
  go_loopg [0, 3, 4, 7, 8] (rs.length + 1) (fun gk s word words pos inw wr => ∃ (n : Nat) (a : Option (List Nat)) (rest : List Nat) (W : List (List Nat)), s = .string (txt (enc rest)) ∧ slotW a rest word pos inw n ∧ asc rest ∧ rest.length < gk ∧ n + rest.length = rs.length ∧ W.length ≤ n ∧ Hid (ws none rs = W ++ ws a rest) ∧ Hid (wr.ownsRow w.heap.size 9 1 words W.length (strs W)) ∧ Below w.heap.size w wr)
  case atStart => exact ⟨0, none, rs, [], rfl, ⟨rfl, ⟨_, rfl⟩, 0, rfl, by omega⟩, ha, by omega, by omega, by simp, rfl, World.ownsRow_nil _ _ _ _, Below.refl _ _⟩
  case round =>
    obtain ⟨n, a, rest, W, rfl, hs, har, hg, hn, hW, hinv, hown, hb⟩ := hrel
    have hbs := hb.size
    cases rest with
    | nil =>
      have h0 : (txt (enc [])).size ≤ 0 := Nat.le_refl _
      cases a with
      | none =>
        obtain ⟨rfl, ⟨u, rfl⟩, q, rfl, hq⟩ := hs
        obtain ⟨ao, cap, rfl⟩ := owns_slice hown.out
        go_wp2
        go_ret
        have e := hinv.out
        rw [ws_nil, List.append_nil] at e
        rw [e]
        exact ⟨ao, cap, rfl, hown.out, hb⟩
      | some a =>
        obtain ⟨rfl, rfl, rfl, hal, haa⟩ := hs
        have hel := asc_len haa
        have htake : (txt (enc (a ++ []))).extract 0 a.length = txt (enc a) := by rw [← hel, enc_append]; exact txt_take _ _
        have hsz : a.length ≤ (txt (enc (a ++ []))).size := by rw [List.append_nil, txt_size]; omega
        rw [List.append_nil] at htake hsz ⊢
        clear hel
        go_wp2_with (at_builtin; refine wpList_app1 rfl _ _ 40 9 rfl i0 (.string ⟨#[]⟩) 16 Tryd.underlying40 hi hz0 hz1 hz2 rfl w.heap.size _ W.length _ rfl hown.out (.string (txt (enc a))) rfl rfl (by omega) (by omega) hbs ?_)
        intro ao cap w2 hown2 hb2 _
        go_wp2
        go_ret
        have e := hinv.out
        rw [ws_end] at e
        have e2 : (ws none rs).length = W.length + 1 := by rw [e, List.length_append]; rfl
        have e3 : strs (ws none rs) = strs W ++ [.string (txt (enc a))] := by rw [e, strs_app]; rfl
        rw [e2, e3]
        exact ⟨ao, cap, rfl, hown2, hb.trans hb2⟩
    | cons r rest =>
      have h8 : r < 128 := har.head
      have hr : Sc r := har.scs.head
      have hri := hr.i32
      have hsz := enc_size_pos r rest
      have hple := enc1_size_le r rest
      have hskip := rest_enc r rest
      have he1 : (enc1 r).length = 1 := by rw [enc1_asc h8]; rfl
      rw [List.length_cons] at hg hn
      have cD := Lib.hid (dec_any r rest wr hr (hT.below hb))
      rw [he1] at cD hskip hple
      have cL := Lib.hid fun W (h : Props W) => alpha_any r W h8 h
      have hPr := hP.below hb
      obtain ⟨gk, rfl⟩ : ∃ m, gk = m + 1 := ⟨gk - 1, by omega⟩
      obtain ⟨lt, hlt⟩ : ∃ q, letN r = q := ⟨_, rfl⟩
      rw [hlt] at cL
      clear he1
      cases lt with
      | true =>
        cases a with
        | none =>
          obtain ⟨rfl, ⟨u, rfl⟩, q, rfl, hq⟩ := hs
          have HLT := Lib.hid hlt
          clear hlt
          go_wp2_with (first
            | (go_at_call 52; refine cD.out.mono ?_; rintro e w1 ⟨rfl, hb1⟩)
            | (go_at_call 80; refine (cL.out _ (hPr.below hb1)).mono ?_; rintro e w1 ⟨rfl, rfl⟩))
          go_roundg gk
          case rel =>
            refine ⟨n + 1, some [r], rest, W, rfl, ⟨rfl, rfl, by go_num, by simp, fun x hx => by simp at hx; omega⟩, har.tail, by omega, by omega, by omega, ?_, owns_below hown.out hb1, hb.trans (hb1.mono hbs)⟩
            show _ = _
            rw [hinv.out, ws_begin HLT.out]
          case measure => omega
        | some a =>
          obtain ⟨rfl, rfl, rfl, hal, haa⟩ := hs
          have HLT := Lib.hid hlt
          clear hlt
          go_wp2_with (first
            | (go_at_call 52; refine cD.out.mono ?_; rintro e w1 ⟨rfl, hb1⟩)
            | (go_at_call 80; refine (cL.out _ (hPr.below hb1)).mono ?_; rintro e w1 ⟨rfl, rfl⟩))
          go_roundg gk
          case rel =>
            refine ⟨n + 1, some (a ++ [r]), rest, W, rfl, slot_on a r rest _ n h8 hal haa rfl, har.tail, by omega, by omega, by omega, ?_, owns_below hown.out hb1, hb.trans (hb1.mono hbs)⟩
            show _ = _
            rw [hinv.out, ws_on a (inN_of HLT.out)]
          case measure => omega
      | false =>
        cases a with
        | none =>
          obtain ⟨rfl, ⟨u, rfl⟩, q, rfl, hq⟩ := hs
          have HLT := Lib.hid hlt
          clear hlt
          go_wp2_with (first
            | (go_at_call 52; refine cD.out.mono ?_; rintro e w1 ⟨rfl, hb1⟩)
            | (go_at_call 80; refine (cL.out _ (hPr.below hb1)).mono ?_; rintro e w1 ⟨rfl, rfl⟩))
          all_goals (go_roundg gk)
          case rel =>
            refine ⟨n + 1, none, rest, W, rfl, ⟨rfl, ⟨_, rfl⟩, q + 1, by go_num, by omega⟩, har.tail, by omega, by omega, by omega, ?_, owns_below hown.out hb1, hb.trans (hb1.mono hbs)⟩
            show _ = _
            rw [hinv.out, ws_skip HLT.out]
          case measure => omega
        | some a =>
          obtain ⟨rfl, rfl, rfl, hal, haa⟩ := hs
          by_cases h39 : r = 39 ∨ r = 45
          · have hin : inN r = true := by unfold inN; rw [decide_eq_true h39, Bool.or_true]
            have HIN := Lib.hid hin
            clear hin hlt
            rcases h39 with rfl | rfl
            · go_wp2_with (first
                | (go_at_call 52; refine cD.out.mono ?_; rintro e w1 ⟨rfl, hb1⟩)
                | (go_at_call 80; refine (cL.out _ (hPr.below hb1)).mono ?_; rintro e w1 ⟨rfl, rfl⟩))
              go_roundg gk
              case rel =>
                refine ⟨n + 1, some (a ++ [_]), rest, W, rfl, slot_on a _ rest _ n h8 hal haa rfl, har.tail, by omega, by omega, by omega, ?_, owns_below hown.out hb1, hb.trans (hb1.mono hbs)⟩
                show _ = _
                rw [hinv.out, ws_on a HIN.out]
              case measure => omega
            · go_wp2_with (first
                | (go_at_call 52; refine cD.out.mono ?_; rintro e w1 ⟨rfl, hb1⟩)
                | (go_at_call 80; refine (cL.out _ (hPr.below hb1)).mono ?_; rintro e w1 ⟨rfl, rfl⟩))
              go_roundg gk
              case rel =>
                refine ⟨n + 1, some (a ++ [_]), rest, W, rfl, slot_on a _ rest _ n h8 hal haa rfl, har.tail, by omega, by omega, by omega, ?_, owns_below hown.out hb1, hb.trans (hb1.mono hbs)⟩
                show _ = _
                rw [hinv.out, ws_on a HIN.out]
              case measure => omega
          · have hin : inN r = false := by unfold inN; rw [hlt, decide_eq_false h39]; rfl
            have HIN := Lib.hid hin
            have HLT := Lib.hid hlt
            have h39a : ((r : Int) == 39) = false := by simp; omega
            have h39b : ((r : Int) == 45) = false := by simp; omega
            have hel := asc_len haa
            have htake : (txt (enc (a ++ r :: rest))).extract 0 a.length = txt (enc a) := by rw [← hel, enc_append]; exact txt_take _ _
            have hsz2 : a.length ≤ (txt (enc (a ++ r :: rest))).size := by rw [enc_append, txt_size, List.length_append]; omega
            clear hel hin hlt h39
            go_wp2_with (first
              | (go_at_call 52; refine cD.out.mono ?_; rintro e w1 ⟨rfl, hb1⟩)
              | (go_at_call 80; refine (cL.out _ (hPr.below hb1)).mono ?_; rintro e w1 ⟨rfl, rfl⟩)
              | (at_builtin; refine wpList_app1 rfl _ _ 40 9 rfl i0 (.string ⟨#[]⟩) 16 Tryd.underlying40 hi hz0 hz1 hz2 rfl w.heap.size _ W.length _ rfl (owns_below hown.out hb1) (.string (txt (enc a))) rfl rfl (by omega) (by omega) (Nat.le_trans hbs hb1.size) ?_; intro ao cap w2 hown2 hb2 _))
            go_roundg gk
            case rel =>
              refine ⟨n + 1, none, rest, W ++ [a], rfl, ⟨rfl, ⟨_, rfl⟩, a.length + 1, by go_num, by omega⟩, har.tail, by omega, by omega, by rw [List.length_append, List.length_singleton]; omega, ?_, ?_, (hb.trans (hb1.mono hbs)).trans hb2⟩
              · show _ = _
                rw [hinv.out, ws_off a HIN.out, List.append_assoc]; rfl
              · show World.ownsRow _ _ _ _ _ _ _
                rw [List.length_append, strs_app]
                exact hown2
            case measure => omega


end Go.Proofs.YtodablchamiaeaaDoor
