/- The law FnWordSplit: its walk. -/
import Derived.Test.YtodablchamiaeaaDoorWords
import Derived.Deep.RegionWith
namespace Go.Proofs.YtodablchamiaeaaDoor
open Go.RowKit U8
open Go.Lib hiding intOf

theorem strs_get (l : List (List Nat)) (j : Nat) : (strs l)[j]? = l[j]?.map fun x => Value.string (txt (enc x)) := by simp [strs]
theorem cellS {w : World} {base g n cap : Nat} {l : List (List Nat)} (h : w.ownsRow base 9 1 (.slice (some ⟨g, 0, none⟩) n cap) n (strs l)) (j : Nat) (x : List Nat) (hx : l[j]? = some x) : w.cell? ⟨g, j, none⟩ = some (.string (txt (enc x))) := by
  have hn : l.length = n := by have := h.1; rw [strs_len] at this; omega
  have hj := (List.getElem?_eq_some_iff.1 hx).1
  rw [World.ownsRow.cellAt h j (by omega), strs_get, hx]
  rfl

theorem byte_at (rs p rest : List Nat) (r : Nat) (ha : asc rs) (h : rs = p ++ r :: rest) (W : World) :
    (Instr.index 9 (.string (txt (enc rs))) (.int .i64 p.length)).run Tryd.prog W = .ok (.int .u8 (r : Int)) W := by
  have hr : r < 128 := ha r (by rw [h]; simp)
  have := run_byte (enc rs) p.length r.toUInt8 (by rw [enc_asc ha, h, List.map_append, List.getElem?_append_right (by simp)]; simp) W
  rw [u8_toNat (by omega)] at this
  exact this
theorem slice_at (rs p a rest : List Nat) (ha : asc rs) (h : rs = (p ++ a) ++ rest) (W : World) :
    (Instr.slice 9 (.string (txt (enc rs))) (some (.int .i64 p.length)) (some (.int .i64 (p ++ a).length)) none).run Tryd.prog W = .ok (.string (txt (enc a))) W := by
  have hpa : asc p := fun x hx => ha x (by rw [h]; simp [hx])
  have haa : asc a := fun x hx => ha x (by rw [h]; simp [hx])
  have hsz : (txt (enc rs)).size = rs.length := by rw [txt_size, asc_len ha]
  have hl : p.length + a.length ≤ rs.length := by rw [h]; simp
  have e := run_slice_string (P := Tryd.prog) W 9 (txt (enc rs)) .i64 .i64 p.length (p ++ a).length Tryd.underlying9 (by omega) (by rw [List.length_append]; omega) (by rw [hsz, List.length_append]; omega)
  rw [e]
  have hx : (txt (enc rs)).extract ((p.length : Int)).toNat (((p ++ a).length : Nat) : Int).toNat = txt (enc a) := by
    rw [Int.toNat_natCast, Int.toNat_natCast, txt_extract, enc_asc ha, enc_asc haa, h, ← List.map_take, List.take_left, ← List.map_drop, List.drop_left]
  rw [hx]

theorem implWords_any (rs : List Nat) (w : World) (ha : asc rs) (hl : rs.length ≤ 1000000) (hT : Tabs w) (hP : Props w) :
    Calls Tryd.prog 33 #[.string (txt (enc rs))] w fun e w' => ∃ ao cap, e = .returned (.slice ao (ws none rs).length cap) ∧ w'.ownsRow w.heap.size 9 1 (.slice ao (ws none rs).length cap) (ws none rs).length (strs (ws none rs)) ∧ Below w.heap.size w w' := by
  go_enter Tryd.func33, Tryd.ntmps33
  go_wp2_with (go_at_call 62; refine (wsplit_any rs _ ha hl hT hP).mono ?_; rintro e w' ⟨ao, cap, rfl, hown, hb⟩)
  go_ret
  exact ⟨ao, cap, rfl, hown, hb⟩

set_option maxHeartbeats 800000 in
set_option maxRecDepth 100000 in
theorem eqTexts_same (l : List (List Nat)) (B1 B2 : Nat) (ao bo : Option Addr) (c1 c2 : Nat) (w : World) (hl : l.length ≤ 1000000) (h1 : w.ownsRow B1 9 1 (.slice ao l.length c1) l.length (strs l)) (h2 : w.ownsRow B2 9 1 (.slice bo l.length c2) l.length (strs l)) :
    Calls Tryd.prog 36 #[.slice ao l.length c1, .slice bo l.length c2] w fun e w' => e = .returned (.bool true) ∧ Below w.heap.size w w' := by
  go_enter Tryd.func36, Tryd.ntmps36
  go_wp2
  go_loopg [13] (l.length + 1) (fun gk i wr => ∃ k : Nat, k ≤ l.length ∧ i = .int .i64 k ∧ l.length - k < gk ∧ Below w.heap.size w wr)
  case atStart => exact ⟨0, by omega, rfl, by omega, Below.refl _ _⟩
  case round =>
    obtain ⟨k, hk, rfl, hg, hb⟩ := hrel
    by_cases hkl : k < l.length
    · obtain ⟨x, hx⟩ : ∃ x, l[k]? = some x := ⟨l[k], List.getElem?_eq_getElem hkl⟩
      obtain ⟨g1, hg1, rfl⟩ := owns_some h1 (by omega)
      obtain ⟨g2, hg2, rfl⟩ := owns_some h2 (by omega)
      have hc1 := cellS (owns_below h1 hb) k x hx
      have hc2 := cellS (owns_below h2 hb) k x hx
      obtain ⟨gk, rfl⟩ : ∃ m, gk = m + 1 := ⟨gk - 1, by omega⟩
      clear hx
      generalize txt (enc x) = X at *
      go_wp2
      go_region
      all_goals (go_wp2)
      all_goals (go_roundg gk)
      all_goals first
        | (exact ⟨k + 1, by omega, by go_num, by omega, hb.drew⟩)
        | omega
    · obtain rfl : k = l.length := by omega
      go_wp2
      go_ret
      exact ⟨rfl, hb⟩

set_option maxHeartbeats 3200000 in
set_option maxRecDepth 100000 in
theorem law_wordSplit (s : ByteArray) (w : World) (hsz : s.size ≤ 140737488351232) (hT : Tabs w) (hP : Props w) :
    Calls Tryd.prog 11 #[.string s] w fun e w' => e = .returned (.bool true) ∧ Below w.heap.size w w' := by
  by_cases hbig : 2147483647 < s.size
  · go_enter Tryd.func11, Tryd.ntmps11
    go_wp2
    go_ret
    exact ⟨rfl, Below.refl _ _⟩
  have hle : s.size ≤ 2147483647 := by omega
  clear hbig hsz
  rcases pl_cases s with hok | ⟨rs, ha, rfl, hlen, hok⟩
  · go_enter Tryd.func11, Tryd.ntmps11
    go_wp2_with fail
    refine (implWords_any [105, 116, 39, 115, 45, 97, 32, 52] _ (fun x hx => by simp at hx; omega) (by decide) hT hP).mono ?_
    rintro e w1 ⟨ao, cap, rfl, hown, hb1⟩
    rw [show ws none [105, 116, 39, 115, 45, 97, 32, 52] = [[105, 116, 39, 115, 45, 97]] by decide] at hown ⊢
    obtain ⟨g, hg, rfl⟩ := owns_some hown (by decide)
    have hc : w1.cell? ⟨g, 0, none⟩ = some (.string ⟨#[105, 116, 39, 115, 45, 97]⟩) := cellS hown 0 _ rfl
    go_wp2_with fail
    refine (plain_no s _ hle hok).mono ?_
    rintro e w2 ⟨rfl, hb2⟩
    go_wp2
    go_ret
    exact ⟨rfl, chain hb1 hb2⟩
  have HV := Lib.hid fun W => plain_yes rs W (by rw [asc_len ha]; exact hlen) hok
  have cI := Lib.hid fun W (h : Tabs W) (k : Props W) => implWords_any rs W ha (by omega) h k
  clear hok
  obtain ⟨i0, hi, hz0, hz1, hz2⟩ := info_parts Tryd.infoS
  have hsize : (txt (enc rs)).size = rs.length := by rw [txt_size, asc_len ha]
  go_enter Tryd.func11, Tryd.ntmps11
  go_wp2_with fail
  refine (implWords_any [105, 116, 39, 115, 45, 97, 32, 52] _ (fun x hx => by simp at hx; omega) (by decide) hT hP).mono ?_
  rintro e w1 ⟨ao, cap, rfl, hown, hb1⟩
  rw [show ws none [105, 116, 39, 115, 45, 97, 32, 52] = [[105, 116, 39, 115, 45, 97]] by decide] at hown ⊢
  obtain ⟨g, hg, rfl⟩ := owns_some hown (by decide)
  have hc : w1.cell? ⟨g, 0, none⟩ = some (.string ⟨#[105, 116, 39, 115, 45, 97]⟩) := cellS hown 0 _ rfl
  clear hown
  go_wp2_with fail
  refine (HV.out _).mono ?_
  rintro e w2 ⟨rfl, hb2⟩
  have hc2 := chain hb1 hb2
  clear hc hb1 hb2
  have HZ := Lib.hid hsize
  go_wp2
  go_loopg [4, 5] (rs.length + 1) (fun gk v i wr => ∃ (p rest : List Nat) (W : List (List Nat)), Hid (rs = p ++ rest) ∧ i = .int .i64 p.length ∧ asc rest ∧ rest.length < gk ∧ W.length ≤ p.length ∧ p.length + rest.length = rs.length ∧ Hid (ws none rs = W ++ ws none rest) ∧ Hid (wr.ownsRow w.heap.size 9 1 v W.length (strs W)) ∧ Below w.heap.size w wr)
  case atStart => exact ⟨[], rs, [], rfl, rfl, ha, by omega, by simp, by simp, rfl, World.ownsRow_nil _ _ _ _, hc2⟩
  case round =>
    obtain ⟨p, rest, W, HR, rfl, har, hg, hW, hpl, hinv, hown, hb⟩ := hrel
    have hbs := hb.size
    obtain ⟨ao, cap2, rfl⟩ := owns_slice hown.out
    cases rest with
    | nil =>
      have hpe : p.length = rs.length := by simpa using hpl
      have e := hinv.out
      rw [ws_nil, List.append_nil] at e
      subst e
      have hWl : (ws none rs).length ≤ 1000000 := by omega
      rw [hpe]
      clear hpe hpl
      go_wp2_with (first
        | (go_at_call 33; refine (cI.out _ (hT.below hb) (hP.below hb)).mono ?_; rintro e w3 ⟨ao3, cap3, rfl, hown3, hb3⟩)
        | (go_at_call 36; refine (eqTexts_same (ws none rs) _ _ ao3 ao cap3 cap2 _ hWl hown3 (owns_below hown.out hb3)).mono ?_; rintro e w4 ⟨rfl, hb4⟩))
      go_ret
      exact ⟨rfl, chain (chain hb hb3) hb4⟩
    | cons r rest =>
      have h8 : r < 128 := har.head
      have hix := byte_at rs p rest r ha HR.out
      rw [List.length_cons] at hg hpl
      have hlt : p.length < rs.length := by omega
      obtain ⟨g0, rfl⟩ : ∃ m, gk = m + 1 := ⟨gk - 1, by omega⟩
      obtain ⟨lt, hlet⟩ : ∃ q, letN r = q := ⟨_, rfl⟩
      have cL := Lib.hid fun W => hlet ▸ letter_any r W (by omega)
      have HLET := Lib.hid hlet
      clear hlet
      cases lt with
      | false =>
        go_wp2_with (go_at_call 35; refine (cL.out _).mono ?_; rintro e w3 ⟨rfl, rfl⟩)
        go_roundg g0
        case rel =>
          refine ⟨p ++ [r], rest, W, ?_, by rw [List.length_append]; rfl, har.tail, by omega, by rw [List.length_append]; omega, by rw [List.length_append, List.length_singleton]; omega, ?_, hown, hb⟩
          · show _ = _
            rw [HR.out]; simp
          · show _ = _
            rw [hinv.out, ws_skip HLET.out]
        case measure => omega
      | true =>
        go_wp2_with (go_at_call 35; refine (cL.out _).mono ?_; rintro e wr ⟨rfl, rfl⟩)
        have hin0 : inN r = true := inN_of HLET.out
        have HIN0 := Lib.hid hin0
        clear hin0 hix hlt cL
        go_loopg [6] (rest.length + 2) (fun gk kk w2 => ∃ (a rest2 : List Nat), Hid (rs = (p ++ a) ++ rest2) ∧ kk = .int .i64 (p ++ a).length ∧ asc rest2 ∧ Hid (ws none (r :: rest) = ws (some a) rest2) ∧ rest2.length < gk ∧ (rest2 = r :: rest ∨ rest2.length ≤ rest.length) ∧ w2 = wr)
        case atStart => exact ⟨[], r :: rest, by show _ = _; rw [HR.out]; simp, by simp, har, by show _ = _; rw [ws_begin HLET.out, ws_on [] HIN0.out]; rfl, by simp, .inl rfl, rfl⟩
        case round =>
          obtain ⟨a, rest2, HR2, rfl, har2, hinv2, hg2, hor, rfl⟩ := hrel
          have hsl := slice_at rs p a rest2 ha HR2.out
          have hlen2 : p.length + a.length + rest2.length = rs.length := by have h := congrArg List.length HR2.out; simp at h; omega
          have hpa : (p ++ a).length = p.length + a.length := List.length_append
          have HN := Lib.hid fun x : Nat => (show (((p ++ (a ++ [x])).length : Nat) : Int) = ((p ++ a).length : Int) + 1 by rw [← List.append_assoc, List.length_append]; rfl)
          have hix2 := Lib.hid fun q t (hq : rest2 = q :: t) => byte_at rs (p ++ a) t q ha (hq ▸ HR2.out)
          obtain ⟨K, hK⟩ : ∃ K, (p ++ a).length = K := ⟨_, rfl⟩
          have HK := Lib.hid hK
          rw [hK] at hsl hpa HN hix2 ⊢
          clear hK
          have hW2 : W.length ≤ 1000000 := by omega
          cases rest2 with
          | nil =>
            rw [List.length_nil] at hlen2
            have hKr : ¬ K < rs.length := by omega
            have ha1 : 1 ≤ a.length := by omega
            have hKb : K ≤ 1000000 := by omega
            have cL2 := Lib.hid fun W => letter_any r W (by omega)
            have HPA := Lib.hid hpa
            have HL2 := Lib.hid hlen2
            clear hpa hlen2 hix2
            go_wp2_with (first
              | (go_at_call 35; refine (cL2.out _).mono ?_; rintro e w3 ⟨rfl, rfl⟩)
              | (at_builtin; refine wpList_app1 rfl _ _ 40 9 rfl i0 (.string ⟨#[]⟩) 16 Tryd.underlying40 hi hz0 hz1 hz2 rfl w.heap.size _ W.length _ rfl hown.out (.string (txt (enc a))) rfl rfl (by omega) (by omega) hbs ?_; intro ao4 cap4 w4 hown4 hb4 _))
            go_roundg g0
            case rel =>
              have hlen2 := HL2.out
              have hpa := HPA.out
              refine ⟨p ++ a, [], W ++ [a], ?_, by rw [HK.out], har2, by rw [List.length_nil]; omega, by rw [List.length_append, List.length_singleton, List.length_append]; omega, by rw [List.length_append]; omega, ?_, ?_, hb.trans hb4⟩
              · show _ = _
                exact HR2.out
              · show _ = _
                rw [hinv.out, hinv2.out, ws_end, List.append_assoc]; try rfl
              · show World.ownsRow _ _ _ _ _ _ _
                rw [List.length_append, strs_app]
                exact hown4
            case measure => omega
          | cons q rest2 =>
            have hq8 : q < 128 := har2.head
            have hix2 := hix2.out q rest2 rfl
            rw [List.length_cons] at hg2 hlen2 hor
            have hlt2 : K < rs.length := by omega
            have hKb : K ≤ 1000000 := by omega
            have HPA := Lib.hid hpa
            have HL2 := Lib.hid hlen2
            clear hpa hlen2
            obtain ⟨lt, hlet⟩ : ∃ b, letN q = b := ⟨_, rfl⟩
            have cL2 := Lib.hid fun W => hlet ▸ letter_any q W (by omega)
            have HLET2 := Lib.hid hlet
            clear hlet
            cases lt with
            | true =>
              obtain ⟨gk, rfl⟩ : ∃ m, gk = m + 1 := ⟨gk - 1, by omega⟩
              have hor2 : rest2.length + 1 ≤ rest.length + 1 := by
                rcases hor with h | h
                · have := congrArg List.length h; simp at this; omega
                · omega
              clear hor hsl
              go_wp2_with (go_at_call 35; refine (cL2.out _).mono ?_; rintro e w3 ⟨rfl, rfl⟩)
              go_roundg gk
              case rel =>
                refine ⟨a ++ [q], rest2, ?_, by rw [HN.out], har2.tail, ?_, by omega, .inr (by omega), rfl⟩
                · show _ = _
                  rw [HR2.out]; simp
                · show _ = _
                  rw [hinv2.out, ws_on a (inN_of HLET2.out)]
              case measure => omega
            | false =>
              by_cases h39 : q = 39 ∨ q = 45
              · have hin : inN q = true := by unfold inN; rw [decide_eq_true h39, Bool.or_true]
                have HIN := Lib.hid hin
                obtain ⟨gk, rfl⟩ : ∃ m, gk = m + 1 := ⟨gk - 1, by omega⟩
                have hor2 : rest2.length + 1 ≤ rest.length + 1 := by
                  rcases hor with h | h
                  · have := congrArg List.length h; simp at this; omega
                  · omega
                clear hor hsl hin
                rcases h39 with rfl | rfl
                · go_wp2_with (go_at_call 35; refine (cL2.out _).mono ?_; rintro e w3 ⟨rfl, rfl⟩)
                  go_roundg gk
                  case rel =>
                    refine ⟨a ++ [39], rest2, ?_, by rw [HN.out], har2.tail, ?_, by omega, .inr (by omega), rfl⟩
                    · show _ = _
                      rw [HR2.out]; simp
                    · show _ = _
                      rw [hinv2.out, ws_on a HIN.out]
                  case measure => omega
                · go_wp2_with (go_at_call 35; refine (cL2.out _).mono ?_; rintro e w3 ⟨rfl, rfl⟩)
                  go_roundg gk
                  case rel =>
                    refine ⟨a ++ [45], rest2, ?_, by rw [HN.out], har2.tail, ?_, by omega, .inr (by omega), rfl⟩
                    · show _ = _
                      rw [HR2.out]; simp
                    · show _ = _
                      rw [hinv2.out, ws_on a HIN.out]
                  case measure => omega
              · have hin : inN q = false := by unfold inN; rw [HLET2.out, decide_eq_false h39]; rfl
                have HIN := Lib.hid hin
                have h39a : ((q : Int) == 39) = false := by simp; omega
                have h39b : ((q : Int) == 45) = false := by simp; omega
                have hle2 : rest2.length + 1 ≤ rest.length := by
                  rcases hor with h | h
                  · exfalso
                    cases h
                    have h1 := HIN.out
                    rw [HIN0.out] at h1
                    cases h1
                  · exact h
                have ha1 : 1 ≤ a.length := by have := HL2.out; omega
                clear hor hin h39
                go_wp2_with (first
                  | (go_at_call 35; refine (cL2.out _).mono ?_; rintro e w3 ⟨rfl, rfl⟩)
                  | (at_builtin; refine wpList_app1 rfl _ _ 40 9 rfl i0 (.string ⟨#[]⟩) 16 Tryd.underlying40 hi hz0 hz1 hz2 rfl w.heap.size _ W.length _ rfl hown.out (.string (txt (enc a))) rfl rfl (by omega) (by omega) hbs ?_; intro ao4 cap4 w4 hown4 hb4 _))
                go_roundg g0
                case rel =>
                  have hlen2 := HL2.out
                  have hpa := HPA.out
                  refine ⟨p ++ a, q :: rest2, W ++ [a], ?_, by rw [HK.out], har2, by rw [List.length_cons]; omega, by rw [List.length_append, List.length_singleton, List.length_append]; omega, by rw [List.length_append]; omega, ?_, ?_, hb.trans hb4⟩
                  · show _ = _
                    exact HR2.out
                  · show _ = _
                    rw [hinv.out, hinv2.out, ws_off a HIN.out, ← ws_skip (let_of_in HIN.out) rest2, List.append_assoc]; rfl
                  · show World.ownsRow _ _ _ _ _ _ _
                    rw [List.length_append, strs_app]
                    exact hown4
                case measure => omega

end Go.Proofs.YtodablchamiaeaaDoor
