/- Words of a text of ASCII: xstrings.WordSplit, and the reference's at any text. -/
import Derived.Test.YthanbbflemkomaaDoorNSpec
import Derived.Test.YthanbbflemkomaaDoorMSpec
import Derived.WalkSmall
namespace Go.Proofs.YthanbbflemkomaaDoor
open Go.RowKit U8
open Go.Lib hiding intOf

abbrev Tabs (w : World) : Prop := Utf8Tabs 3 4 w
theorem Tabs.below {w w' : World} (h : Tabs w) (hb : Below w.heap.size w w') : Tabs w' := Utf8Tabs_below h hb
def Props (w : World) : Prop := Lib.TabIs Tryd.prog w "unicode.properties" .u8 Lib.propertiesTab
theorem Props.below {w w' : World} (h : Props w) (hb : Below w.heap.size w w') : Props w' := TabIs_below (P := Tryd.prog) (g := 0) (by kernel_rfl) h hb
/-- What the decoder tells of a text that begins with a character. -/
theorem decodeGo_enc (r : Nat) (rs : List Nat) (h : Sc r) : decodeGo (txt (enc (r :: rs))) = (r, (enc1 r).length) := by
  have hp := enc1_pos r
  unfold decodeGo
  rw [if_neg (by rw [txt_size, enc_cons, List.length_append]; omega)]
  exact decode_enc r rs h
theorem dec_any (r : Nat) (rs : List Nat) (w : World) (h : Sc r) (hT : Tabs w) :
    Calls Tryd.prog 66 #[.string (txt (enc (r :: rs)))] w fun e w' => e = .returned (.tuple #[.int .i32 r, .int .i64 (enc1 r).length]) ∧ Below w.heap.size w w' := by
  have := Tryd.utf8_DecodeRuneInString (txt (enc (r :: rs))) w hT
  rw [decodeGo_enc r rs h] at this
  exact this
def letN (r : Nat) : Bool := decide ((65 ≤ r ∧ r ≤ 90) ∨ (97 ≤ r ∧ r ≤ 122))
def inN (r : Nat) : Bool := letN r || decide (r = 39 ∨ r = 45)
/-- The words: outside a word, or inside the one that is begun. -/
def ws : Option (List Nat) → List Nat → List (List Nat)
  | none, [] => []
  | some a, [] => [a]
  | none, r :: rs => if letN r then ws (some [r]) rs else ws none rs
  | some a, r :: rs => if inN r then ws (some (a ++ [r])) rs else a :: ws none rs
theorem ws_nil : ws none [] = [] := rfl
theorem ws_end (a : List Nat) : ws (some a) [] = [a] := rfl
theorem ws_begin {r : Nat} (h : letN r = true) (rs : List Nat) : ws none (r :: rs) = ws (some [r]) rs := by rw [ws, if_pos h]
theorem ws_skip {r : Nat} (h : letN r = false) (rs : List Nat) : ws none (r :: rs) = ws none rs := by rw [ws, if_neg (by simp [h])]
theorem ws_on (a : List Nat) {r : Nat} (h : inN r = true) (rs : List Nat) : ws (some a) (r :: rs) = ws (some (a ++ [r])) rs := by rw [ws, if_pos h]
theorem ws_off (a : List Nat) {r : Nat} (h : inN r = false) (rs : List Nat) : ws (some a) (r :: rs) = a :: ws none rs := by rw [ws, if_neg (by simp [h])]
theorem inN_of {r : Nat} (h : letN r = true) : inN r = true := by unfold inN; rw [h]; rfl
theorem let_of_in {r : Nat} (h : inN r = false) : letN r = false := by unfold inN at h; cases e : letN r <;> simp_all
def strs (l : List (List Nat)) : List Value := l.map fun x => Value.string (txt (enc x))
theorem strs_app (a b : List (List Nat)) : strs (a ++ b) = strs a ++ strs b := by simp [strs]
theorem letL {r : Nat} (h : r < 128) : isLetterL (r : Int) = letN r := by
  unfold isLetterL isUpperL isLowerL letN
  by_cases a : 65 ≤ r ∧ r ≤ 90
  · rw [decide_eq_true (by omega), decide_eq_true (p := (65 ≤ r ∧ r ≤ 90) ∨ _) (.inl a)]; rfl
  · by_cases b : 97 ≤ r ∧ r ≤ 122
    · rw [decide_eq_true (p := ((97 : Int) ≤ r ∧ (r : Int) ≤ 122) ∨ _) (by omega), decide_eq_true (p := (65 ≤ r ∧ r ≤ 90) ∨ _) (.inr b)]; simp
    · rw [decide_eq_false (p := ((65 : Int) ≤ r ∧ (r : Int) ≤ 90) ∨ _) (by omega), decide_eq_false (p := ((97 : Int) ≤ r ∧ (r : Int) ≤ 122) ∨ _) (by omega), decide_eq_false (p := (r : Int) = 170 ∨ _) (by omega), decide_eq_false (p := (65 ≤ r ∧ r ≤ 90) ∨ _) (by omega)]; rfl
set_option maxRecDepth 100000 in
theorem alpha_any (r : Nat) (w : World) (h : r < 128) (hP : Props w) :
    Calls Tryd.prog 76 #[.int .i32 r] w fun e w' => e = .returned (.bool (letN r)) ∧ w' = w := by
  have cL := Tryd.unicode_IsLetter r w (by omega) hP
  rw [letL h] at cL
  obtain ⟨q, hq⟩ : ∃ q, letN r = q := ⟨_, rfl⟩
  rw [hq] at cL ⊢
  clear hq
  cases q
  · go_enter Tryd.func76, Tryd.ntmps76
    go_wp2_with (go_at_call 51; refine cL.mono ?_; rintro e w1 ⟨rfl, rfl⟩)
    go_ret
    exact ⟨rfl, rfl⟩
  · go_enter Tryd.func76, Tryd.ntmps76
    go_wp2_with (go_at_call 51; refine cL.mono ?_; rintro e w1 ⟨rfl, rfl⟩)
    go_ret
    exact ⟨rfl, rfl⟩
theorem Tryd.infoS : (Tryd.prog.info? 9).map (fun i => (i.zero, i.size, i.bytes)) = some (some (.string ⟨#[]⟩), 1, 16) := by kernel_rfl

theorem strs_len (l : List (List Nat)) : (strs l).length = l.length := by simp [strs]
def slotW (a : Option (List Nat)) (rest : List Nat) (word pos inw : Value) (n : Nat) : Prop :=
  match a with
  | none => inw = .bool false ∧ (∃ u, word = .string u) ∧ ∃ q : Nat, pos = .int .i64 q ∧ q ≤ n
  | some a => inw = .bool true ∧ word = .string (txt (enc (a ++ rest))) ∧ pos = .int .i64 a.length ∧ a.length ≤ n ∧ asc a

theorem slot_on (a : List Nat) (r : Nat) (rest : List Nat) (pos : Value) (n : Nat) (h8 : r < 128) (hal : a.length ≤ n) (haa : asc a) (hp : pos = .int .i64 ((a.length : Int) + 1)) :
    slotW (some (a ++ [r])) rest (.string (txt (enc (a ++ r :: rest)))) pos (.bool true) (n + 1) := by
  refine ⟨rfl, by rw [List.append_assoc]; rfl, by rw [hp, List.length_append]; rfl, by rw [List.length_append, List.length_singleton]; omega, fun x hx => ?_⟩
  rcases List.mem_append.1 hx with h | h
  · exact haa x h
  · simp at h; omega

set_option maxHeartbeats 3200000 in
set_option maxRecDepth 100000 in
theorem wsplit_any (rs : List Nat) (w : World) (ha : asc rs) (hl : rs.length ≤ 1000000) (hT : Tabs w) (hP : Props w) :
    Calls Tryd.prog 58 #[.string (txt (enc rs))] w fun e w' => ∃ ao cap, e = .returned (.slice ao (ws none rs).length cap) ∧ w'.ownsRow w.heap.size 9 1 (.slice ao (ws none rs).length cap) (ws none rs).length (strs (ws none rs)) ∧ Below w.heap.size w w' := by
  obtain ⟨i0, hi, hz0, hz1, hz2⟩ := info_parts Tryd.infoS
  go_enter Tryd.func58, Tryd.ntmps58
  go_wp2
  go_loopg [0, 3, 4, 7, 8] (rs.length + 1) (fun gk s word words pos inw wr => ∃ (n : Nat) (a : Option (List Nat)) (rest : List Nat) (W : List (List Nat)), s = .string (txt (enc rest)) ∧ slotW a rest word pos inw n ∧ asc rest ∧ rest.length < gk ∧ n + rest.length = rs.length ∧ W.length ≤ n ∧ Hid (ws none rs = W ++ ws a rest) ∧ Hid (wr.ownsRow w.heap.size 9 1 words W.length (strs W)) ∧ Below w.heap.size w wr)
  case atStart => exact ⟨0, none, rs, [], rfl, ⟨rfl, ⟨_, rfl⟩, 0, rfl, by omega⟩, ha, by omega, by omega, by simp, rfl, World.ownsRow_nil _ _ _ _, Below.refl _ _⟩
  case round =>
    obtain ⟨n, a, rest, W, rfl, hs, har, hg, hn, hW, hinv, hown, hb⟩ := hrel
    have hbs := hb.size
    cases rest with
    | nil =>
      have h0 : (txt (enc [])).size ≤ 0 := Nat.le_refl _
      cases a with
      | none =>
        obtain ⟨rfl, ⟨u, rfl⟩, q, rfl, hq⟩ := hs
        obtain ⟨ao, cap, rfl⟩ := owns_slice hown.out
        go_wp2
        go_ret
        have e := hinv.out
        rw [ws_nil, List.append_nil] at e
        rw [e]
        exact ⟨ao, cap, rfl, hown.out, hb⟩
      | some a =>
        obtain ⟨rfl, rfl, rfl, hal, haa⟩ := hs
        have hel := asc_len haa
        have htake : (txt (enc (a ++ []))).extract 0 a.length = txt (enc a) := by rw [← hel, enc_append]; exact txt_take _ _
        have hsz : a.length ≤ (txt (enc (a ++ []))).size := by rw [List.append_nil, txt_size]; omega
        rw [List.append_nil] at htake hsz ⊢
        clear hel
        go_wp2_with (at_builtin; refine wpList_app1 rfl _ _ 22 9 rfl i0 (.string ⟨#[]⟩) 16 Tryd.underlying22 hi hz0 hz1 hz2 rfl w.heap.size _ W.length _ rfl hown.out (.string (txt (enc a))) rfl rfl (by omega) (by omega) hbs ?_)
        intro ao cap w2 hown2 hb2 _
        go_wp2
        go_ret
        have e := hinv.out
        rw [ws_end] at e
        have e2 : (ws none rs).length = W.length + 1 := by rw [e, List.length_append]; rfl
        have e3 : strs (ws none rs) = strs W ++ [.string (txt (enc a))] := by rw [e, strs_app]; rfl
        rw [e2, e3]
        exact ⟨ao, cap, rfl, hown2, hb.trans hb2⟩
    | cons r rest =>
      have h8 : r < 128 := har.head
      have hr : Sc r := har.scs.head
      have hri := hr.i32
      have hsz := enc_size_pos r rest
      have hple := enc1_size_le r rest
      have hskip := rest_enc r rest
      have he1 : (enc1 r).length = 1 := by rw [enc1_asc h8]; rfl
      rw [List.length_cons] at hg hn
      have cD := Lib.hid (dec_any r rest wr hr (hT.below hb))
      rw [he1] at cD hskip hple
      have cL := Lib.hid fun W (h : Props W) => alpha_any r W h8 h
      have hPr := hP.below hb
      obtain ⟨gk, rfl⟩ : ∃ m, gk = m + 1 := ⟨gk - 1, by omega⟩
      obtain ⟨lt, hlt⟩ : ∃ q, letN r = q := ⟨_, rfl⟩
      rw [hlt] at cL
      clear he1
      cases lt with
      | true =>
        cases a with
        | none =>
          obtain ⟨rfl, ⟨u, rfl⟩, q, rfl, hq⟩ := hs
          have HLT := Lib.hid hlt
          clear hlt
          go_wp2_with (first
            | (go_at_call 66; refine cD.out.mono ?_; rintro e w1 ⟨rfl, hb1⟩)
            | (go_at_call 76; refine (cL.out _ (hPr.below hb1)).mono ?_; rintro e w1 ⟨rfl, rfl⟩))
          go_roundg gk
          case rel =>
            refine ⟨n + 1, some [r], rest, W, rfl, ⟨rfl, rfl, by go_num, by simp, fun x hx => by simp at hx; omega⟩, har.tail, by omega, by omega, by omega, ?_, owns_below hown.out hb1, hb.trans (hb1.mono hbs)⟩
            show _ = _
            rw [hinv.out, ws_begin HLT.out]
          case measure => omega
        | some a =>
          obtain ⟨rfl, rfl, rfl, hal, haa⟩ := hs
          have HLT := Lib.hid hlt
          clear hlt
          go_wp2_with (first
            | (go_at_call 66; refine cD.out.mono ?_; rintro e w1 ⟨rfl, hb1⟩)
            | (go_at_call 76; refine (cL.out _ (hPr.below hb1)).mono ?_; rintro e w1 ⟨rfl, rfl⟩))
          go_roundg gk
          case rel =>
            refine ⟨n + 1, some (a ++ [r]), rest, W, rfl, slot_on a r rest _ n h8 hal haa rfl, har.tail, by omega, by omega, by omega, ?_, owns_below hown.out hb1, hb.trans (hb1.mono hbs)⟩
            show _ = _
            rw [hinv.out, ws_on a (inN_of HLT.out)]
          case measure => omega
      | false =>
        cases a with
        | none =>
          obtain ⟨rfl, ⟨u, rfl⟩, q, rfl, hq⟩ := hs
          have HLT := Lib.hid hlt
          clear hlt
          go_wp2_with (first
            | (go_at_call 66; refine cD.out.mono ?_; rintro e w1 ⟨rfl, hb1⟩)
            | (go_at_call 76; refine (cL.out _ (hPr.below hb1)).mono ?_; rintro e w1 ⟨rfl, rfl⟩))
          all_goals (go_roundg gk)
          case rel =>
            refine ⟨n + 1, none, rest, W, rfl, ⟨rfl, ⟨_, rfl⟩, q + 1, by go_num, by omega⟩, har.tail, by omega, by omega, by omega, ?_, owns_below hown.out hb1, hb.trans (hb1.mono hbs)⟩
            show _ = _
            rw [hinv.out, ws_skip HLT.out]
          case measure => omega
        | some a =>
          obtain ⟨rfl, rfl, rfl, hal, haa⟩ := hs
          by_cases h39 : r = 39 ∨ r = 45
          · have hin : inN r = true := by unfold inN; rw [decide_eq_true h39, Bool.or_true]
            have HIN := Lib.hid hin
            clear hin hlt
            rcases h39 with rfl | rfl
            · go_wp2_with (first
                | (go_at_call 66; refine cD.out.mono ?_; rintro e w1 ⟨rfl, hb1⟩)
                | (go_at_call 76; refine (cL.out _ (hPr.below hb1)).mono ?_; rintro e w1 ⟨rfl, rfl⟩))
              go_roundg gk
              case rel =>
                refine ⟨n + 1, some (a ++ [_]), rest, W, rfl, slot_on a _ rest _ n h8 hal haa rfl, har.tail, by omega, by omega, by omega, ?_, owns_below hown.out hb1, hb.trans (hb1.mono hbs)⟩
                show _ = _
                rw [hinv.out, ws_on a HIN.out]
              case measure => omega
            · go_wp2_with (first
                | (go_at_call 66; refine cD.out.mono ?_; rintro e w1 ⟨rfl, hb1⟩)
                | (go_at_call 76; refine (cL.out _ (hPr.below hb1)).mono ?_; rintro e w1 ⟨rfl, rfl⟩))
              go_roundg gk
              case rel =>
                refine ⟨n + 1, some (a ++ [_]), rest, W, rfl, slot_on a _ rest _ n h8 hal haa rfl, har.tail, by omega, by omega, by omega, ?_, owns_below hown.out hb1, hb.trans (hb1.mono hbs)⟩
                show _ = _
                rw [hinv.out, ws_on a HIN.out]
              case measure => omega
          · have hin : inN r = false := by unfold inN; rw [hlt, decide_eq_false h39]; rfl
            have HIN := Lib.hid hin
            have HLT := Lib.hid hlt
            have h39a : ((r : Int) == 39) = false := by simp; omega
            have h39b : ((r : Int) == 45) = false := by simp; omega
            have hel := asc_len haa
            have htake : (txt (enc (a ++ r :: rest))).extract 0 a.length = txt (enc a) := by rw [← hel, enc_append]; exact txt_take _ _
            have hsz2 : a.length ≤ (txt (enc (a ++ r :: rest))).size := by rw [enc_append, txt_size, List.length_append]; omega
            clear hel hin hlt h39
            go_wp2_with (first
              | (go_at_call 66; refine cD.out.mono ?_; rintro e w1 ⟨rfl, hb1⟩)
              | (go_at_call 76; refine (cL.out _ (hPr.below hb1)).mono ?_; rintro e w1 ⟨rfl, rfl⟩)
              | (at_builtin; refine wpList_app1 rfl _ _ 22 9 rfl i0 (.string ⟨#[]⟩) 16 Tryd.underlying22 hi hz0 hz1 hz2 rfl w.heap.size _ W.length _ rfl (owns_below hown.out hb1) (.string (txt (enc a))) rfl rfl (by omega) (by omega) (Nat.le_trans hbs hb1.size) ?_; intro ao cap w2 hown2 hb2 _))
            go_roundg gk
            case rel =>
              refine ⟨n + 1, none, rest, W ++ [a], rfl, ⟨rfl, ⟨_, rfl⟩, a.length + 1, by go_num, by omega⟩, har.tail, by omega, by omega, by rw [List.length_append, List.length_singleton]; omega, ?_, ?_, (hb.trans (hb1.mono hbs)).trans hb2⟩
              · show _ = _
                rw [hinv.out, ws_off a HIN.out, List.append_assoc]; rfl
              · show World.ownsRow _ _ _ _ _ _ _
                rw [List.length_append, strs_app]
                exact hown2
            case measure => omega


theorem strs_get (l : List (List Nat)) (j : Nat) : (strs l)[j]? = l[j]?.map fun x => Value.string (txt (enc x)) := by simp [strs]
theorem cellS {w : World} {base g n cap : Nat} {l : List (List Nat)} (h : w.ownsRow base 9 1 (.slice (some ⟨g, 0, none⟩) n cap) n (strs l)) (j : Nat) (x : List Nat) (hx : l[j]? = some x) : w.cell? ⟨g, j, none⟩ = some (.string (txt (enc x))) := by
  have hn : l.length = n := by have := h.1; rw [strs_len] at this; omega
  have hj := (List.getElem?_eq_some_iff.1 hx).1
  rw [World.ownsRow.cellAt h j (by omega), strs_get, hx]
  rfl

set_option maxHeartbeats 800000 in
set_option maxRecDepth 100000 in
theorem eqTexts_same (l : List (List Nat)) (B1 B2 : Nat) (ao bo : Option Addr) (c1 c2 : Nat) (w : World) (hl : l.length ≤ 1000000) (h1 : w.ownsRow B1 9 1 (.slice ao l.length c1) l.length (strs l)) (h2 : w.ownsRow B2 9 1 (.slice bo l.length c2) l.length (strs l)) :
    Calls Tryd.prog 31 #[.slice ao l.length c1, .slice bo l.length c2] w fun e w' => e = .returned (.bool true) ∧ Below w.heap.size w w' := by
  go_enter Tryd.func31, Tryd.ntmps31
  go_wp2
  go_loopg [13] (l.length + 1) (fun gk i wr => ∃ k : Nat, k ≤ l.length ∧ i = .int .i64 k ∧ l.length - k < gk ∧ Below w.heap.size w wr)
  case atStart => exact ⟨0, by omega, rfl, by omega, Below.refl _ _⟩
  case round =>
    obtain ⟨k, hk, rfl, hg, hb⟩ := hrel
    by_cases hkl : k < l.length
    · obtain ⟨x, hx⟩ : ∃ x, l[k]? = some x := ⟨l[k], List.getElem?_eq_getElem hkl⟩
      obtain ⟨g1, hg1, rfl⟩ := owns_some h1 (by omega)
      obtain ⟨g2, hg2, rfl⟩ := owns_some h2 (by omega)
      have hc1 := cellS (owns_below h1 hb) k x hx
      have hc2 := cellS (owns_below h2 hb) k x hx
      obtain ⟨gk, rfl⟩ : ∃ m, gk = m + 1 := ⟨gk - 1, by omega⟩
      clear hx
      generalize txt (enc x) = X at *
      go_wp2
      go_region
      all_goals (go_wp2)
      all_goals (go_roundg gk)
      all_goals first
        | (exact ⟨k + 1, by omega, by go_num, by omega, hb.drew⟩)
        | omega
    · obtain rfl : k = l.length := by omega
      go_wp2
      go_ret
      exact ⟨rfl, hb⟩

theorem txt_mid (p a rest : List UInt8) : (txt (p ++ (a ++ rest))).extract p.length (p.length + a.length) = txt a := by
  rw [txt_extract, ← List.append_assoc, List.take_append_of_le_length (by simp), ← List.length_append, List.take_length, List.drop_left]

end Go.Proofs.YthanbbflemkomaaDoor
