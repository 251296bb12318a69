/- The reference's WordSplit at any text. -/
import Derived.Test.YthanbbflemkomaaDoorNSw
namespace Go.Proofs.YthanbbflemkomaaDoor
open Go.RowKit U8
open Go.Lib hiding intOf

/-- What spec.WordSplit tells. -/
def WsPost (l : List UInt8) (w : World) (e : Ending) (w' : World) : Prop :=
  Below w.heap.size w w' ∧ (((∃ b ∈ l, 128 ≤ b.toNat) ∧ e = .returned (.tuple #[.slice none 0 0, .int .i64 2])) ∨
    ((∀ b ∈ l, b.toNat < 128) ∧ ∃ ao cap, e = .returned (.tuple #[.slice ao (ws none (tn l)).length cap, .int .i64 1]) ∧ w'.ownsRow w.heap.size 9 1 (.slice ao (ws none (tn l)).length cap) (ws none (tn l)).length (strs (ws none (tn l)))))
theorem WsPost.no {l : List UInt8} {w w' : World} {e : Ending} (hR : ∃ b ∈ l, 128 ≤ b.toNat) (hb : Below w.heap.size w w') (he : e = .returned (.tuple #[.slice none 0 0, .int .i64 2])) : WsPost l w e w' := ⟨hb, .inl ⟨hR, he⟩⟩
theorem enc_tn {l : List UInt8} (h : ∀ b ∈ l, b.toNat < 128) : enc (tn l) = l := by
  have ha : asc (tn l) := fun r hr => by obtain ⟨b, hb, rfl⟩ := List.mem_map.1 hr; exact h b hb
  rw [enc_asc ha]
  unfold tn
  rw [List.map_map]
  exact (List.map_congr_left (fun b _ => by simp)).trans (List.map_id _)
def stW (q : Bool) (la : List UInt8) : Option (List Nat) := if q then some (tn la) else none
theorem run_mid2 (lp la lr : List UInt8) (F K : Nat) (hF : lp.length = F) (hK : lp.length + la.length = K) (hm : K ≤ 1000000) : ∀ W, (Instr.slice 9 (.string (txt (lp ++ (la ++ lr)))) (some (.int .i64 (F : Int))) (some (.int .i64 (K : Int))) none).run Tryd.prog W = .ok (.string (txt la)) W := fun W => by
  subst hF hK
  have e := run_slice_string (P := Tryd.prog) W 9 (txt (lp ++ (la ++ lr))) .i64 .i64 lp.length (lp.length + la.length : Nat) Tryd.underlying9 (by omega) (by omega) (by rw [txt_size, List.length_append, List.length_append]; omega)
  rw [show ((lp.length : Int)).toNat = lp.length by omega, show (((lp.length + la.length : Nat) : Int)).toNat = lp.length + la.length by omega, txt_mid lp la lr] at e
  exact e
theorem sletter_n (x : Nat) (q : Bool) (w : World) (hx : x < 256) (hq : letN x = q) :
    Calls Tryd.prog 55 #[.int .u8 x] w fun e w' => e = .returned (.bool q) ∧ w' = w := by
  have c := sletter_any x w hx
  rw [show decide ((97 ≤ x ∧ x ≤ 122) ∨ (65 ≤ x ∧ x ≤ 90)) = q by rw [← hq]; unfold letN; exact decide_eq_decide.2 (by omega)] at c
  exact c

set_option maxHeartbeats 12800000 in
set_option maxRecDepth 100000 in
theorem swords_any (l : List UInt8) (w : World) (hl : l.length ≤ 900000) :
    Calls Tryd.prog 28 #[.string (txt l)] w (WsPost l w) := by
  obtain ⟨i0, hi, hz0, hz1, hz2⟩ := info_parts Tryd.infoS
  have hts := txt_size l
  obtain ⟨n, hn⟩ : ∃ n, l.length = n := ⟨_, rfl⟩
  rw [hn] at hts hl
  have HNL := Lib.hid hn
  clear hn
  go_enter Tryd.func28, Tryd.ntmps28
  go_wp2
  go_loopg [4, 5, 6, 7] (n + 2) (fun gk v4 v5 v6 v7 wr => ∃ W : List (List Nat), Hid (wr.ownsRow w.heap.size 9 1 v4 W.length (strs W)) ∧ Hid (Below w.heap.size w wr) ∧
    ((∃ (lp la lr : List UInt8) (q : Bool) (K : Nat) (f : Int), v5 = .int .i64 f ∧ v6 = .int .i64 K ∧ Hid (l = lp ++ (la ++ lr)) ∧ Hid (lp.length + la.length = K) ∧ K + lr.length = n ∧ W.length ≤ K ∧ lr.length + 1 < gk ∧ Hid (∀ b ∈ lp ++ la, b.toNat < 128) ∧ Hid (ws none (tn l) = W ++ ws (stW q la) (tn lr)) ∧ ((q = true ∧ f = (lp.length : Int)) ∨ (q = false ∧ f = -1 ∧ la = [])))
     ∨ (v6 = .int .i64 ((n : Int) + 1) ∧ Hid (ws none (tn l) = W) ∧ Hid (∀ b ∈ l, b.toNat < 128) ∧ 0 < gk)))
  case atStart => exact ⟨[], World.ownsRow_nil _ _ _ _, Below.refl _ _, .inl ⟨[], [], l, false, 0, -1, rfl, rfl, rfl, rfl, by have := HNL.out; omega, by simp, by have := HNL.out; omega, fun b hb => by simp at hb, rfl, .inr ⟨rfl, rfl, rfl⟩⟩⟩
  case round =>
    obtain ⟨W, HO, HBw, hst⟩ := hrel
    have hbs := HBw.out.size
    obtain ⟨ao, cap, hv4⟩ := owns_slice HO.out
    subst hv4
    rcases hst with ⟨lp, la, lr, q, K, f, rfl, rfl, HL, HK, hKn, hWK, hg, HA, HI, hq⟩ | ⟨rfl, HI, HA, hg⟩
    · obtain ⟨gk, rfl⟩ : ∃ m, gk = m + 1 := ⟨gk - 1, by omega⟩
      cases lr with
      | nil =>
        rw [List.length_nil] at hKn hg
        have hKn2 : K = n := by omega
        subst hKn2
        have HAL : Hid (∀ b ∈ l, b.toNat < 128) := by
          intro b hb
          rw [HL.out, List.append_nil] at hb
          exact HA.out b hb
        rcases hq with ⟨rfl, rfl⟩ | ⟨rfl, rfl, rfl⟩
        · obtain ⟨F, hF⟩ : ∃ F, lp.length = F := ⟨_, rfl⟩
          have hsl := run_mid2 lp la [] F K hF HK.out (by omega)
          rw [← HL.out] at hsl
          rw [hF]
          have hF0 : (0 : Int) ≤ (F : Int) := by omega
          have HI2 : Hid (ws none (tn l) = W ++ [tn la]) := HI.out
          have hea : txt (enc (tn la)) = txt la := congrArg txt (enc_tn fun b hb => HA.out b (by simp [hb]))
          have HEA := Lib.hid hea
          clear hF HI hea
          go_wp2_with (at_builtin; refine wpList_app1 rfl _ _ 22 9 rfl i0 (.string ⟨#[]⟩) 16 Tryd.underlying22 hi hz0 hz1 hz2 rfl w.heap.size _ W.length _ rfl HO.out (.string (txt la)) rfl rfl (by omega) (by omega) hbs ?_)
          intro ao2 cap2 w2 hown2 hb2 _
          have HO2 : Hid (w2.ownsRow w.heap.size 9 1 (.slice ao2 (W.length + 1) cap2) (W ++ [tn la]).length (strs (W ++ [tn la]))) := by
            show World.ownsRow _ _ _ _ _ _ _
            rw [List.length_append, strs_app, show strs [tn la] = [.string (txt la)] by simp [strs, HEA.out]]
            exact hown2
          have HB2 := Lib.hid (HBw.out.trans hb2)
          clear hown2 hb2
          go_wp2
          go_roundg gk
          case rel => exact ⟨W ++ [tn la], HO2.out, HB2.out, .inr ⟨rfl, HI2.out, HAL.out, by omega⟩⟩
          case measure => omega
        · have HI2 : Hid (ws none (tn l) = W) := by show _ = _; rw [HI.out]; exact List.append_nil _
          clear HI
          go_wp2
          go_roundg gk
          case rel => exact ⟨W, HO.out, HBw.out, .inr ⟨rfl, HI2.out, HAL.out, by omega⟩⟩
          case measure => omega
      | cons b lr =>
        rw [List.length_cons] at hKn hg
        have hbK : l[K]? = some b := by
          rw [HL.out, ← List.append_assoc, List.getElem?_append_right (by rw [List.length_append]; have := HK.out; omega), List.length_append, HK.out, Nat.sub_self]; rfl
        obtain ⟨x, hx⟩ : ∃ x, b.toNat = x := ⟨_, rfl⟩
        have hx8 : x < 256 := by rw [← hx]; exact b.toNat_lt
        have hix := run_at l K b x hbK hx
        have HX := Lib.hid hx
        have hKl : (K : Int) < (n : Int) := by omega
        clear hbK hx
        by_cases h8 : 128 ≤ x
        · have HF : Hid (∃ b ∈ l, 128 ≤ b.toNat) := ⟨b, by rw [HL.out]; simp, by rw [HX.out]; exact h8⟩
          go_wp2
          go_ret2
          exact WsPost.no HF.out HBw.out rfl
        have h8i : (x : Int) < 128 := by omega
        have hKle : (K : Int) ≤ (n : Int) := by omega
        have HA2 : Hid (∀ c ∈ lp ++ (la ++ [b]), c.toNat < 128) := by
          intro c hc
          rw [← List.append_assoc] at hc
          rcases List.mem_append.1 hc with hc | hc
          · exact HA.out c hc
          · simp at hc; rw [hc, HX.out]; omega
        have HL2 : Hid (l = lp ++ ((la ++ [b]) ++ lr)) := by show _ = _; rw [HL.out]; simp
        have HK2 : Hid (lp.length + (la ++ [b]).length = K + 1) := by show _ = _; rw [List.length_append, ← HK.out]; simp; omega
        have htn : tn (b :: lr) = x :: tn lr := by rw [tn_cons, HX.out]
        have HTN := Lib.hid htn
        have htn2 : tn (la ++ [b]) = tn la ++ [x] := by rw [tn_app, tn_cons, HX.out]; rfl
        have HTN2 := Lib.hid htn2
        clear htn htn2
        cases hlt : letN x with
        | true =>
          have CL := Lib.hid fun W => sletter_n x true W hx8 hlt
          rcases hq with ⟨rfl, rfl⟩ | ⟨rfl, rfl, rfl⟩
          · obtain ⟨F, hF⟩ : ∃ F, lp.length = F := ⟨_, rfl⟩
            rw [hF]
            have HF := Lib.hid hF
            have hF0 : (0 : Int) ≤ (F : Int) := by omega
            have HI2 : Hid (ws none (tn l) = W ++ ws (stW true (la ++ [b])) (tn lr)) := by
              show _ = _
              rw [HI.out, HTN.out]
              unfold stW
              rw [if_pos rfl, if_pos rfl, ws_on _ (inN_of hlt), HTN2.out]
            clear hF hlt HI h8
            go_wp2_with fail
            refine (CL.out _).mono ?_
            rintro e wx ⟨rfl, hwx⟩
            obtain rfl := hwx.symm
            go_wp2
            go_roundg gk
            case rel => exact ⟨W, HO.out, HBw.out, .inl ⟨lp, la ++ [b], lr, true, K + 1, F, rfl, by go_num, HL2.out, HK2.out, by omega, by omega, by omega, by show ∀ b ∈ _, _; simpa using HA2.out, HI2.out, .inl ⟨rfl, by rw [HF.out]⟩⟩⟩
            case measure => omega
          · have HI2 : Hid (ws none (tn l) = W ++ ws (stW true [b]) (tn lr)) := by
              show _ = _
              rw [HI.out, HTN.out]
              unfold stW
              rw [if_neg (by simp), if_pos rfl, ws_begin hlt, tn_cons, HX.out]; rfl
            have HKF : Hid (K = lp.length) := by show _ = _; rw [← HK.out]; rfl
            clear hlt HI h8
            go_wp2_with fail
            refine (CL.out _).mono ?_
            rintro e wx ⟨rfl, hwx⟩
            obtain rfl := hwx.symm
            go_wp2
            go_roundg gk
            case rel => exact ⟨W, HO.out, HBw.out, .inl ⟨lp, [b], lr, true, K + 1, K, rfl, by go_num, HL2.out, HK2.out, by omega, by omega, by omega, by show ∀ b ∈ _, _; simpa using HA2.out, HI2.out, .inl ⟨rfl, by rw [HKF.out]⟩⟩⟩
            case measure => omega
        | false =>
          have CL := Lib.hid fun W => sletter_n x false W hx8 hlt
          rcases hq with ⟨rfl, rfl⟩ | ⟨rfl, rfl, rfl⟩
          · obtain ⟨F, hF⟩ : ∃ F, lp.length = F := ⟨_, rfl⟩
            rw [hF]
            have HF := Lib.hid hF
            have hF0 : (0 : Int) ≤ (F : Int) := by omega
            by_cases h39 : x = 39 ∨ x = 45
            · have hin : inN x = true := by unfold inN; rw [decide_eq_true h39, Bool.or_true]
              have HI2 : Hid (ws none (tn l) = W ++ ws (stW true (la ++ [b])) (tn lr)) := by
                show _ = _
                rw [HI.out, HTN.out]
                unfold stW
                rw [if_pos rfl, if_pos rfl, ws_on _ hin, HTN2.out]
              clear hF hlt HI h8 hin
              rcases h39 with h39 | h39
              · have e1 : ((x : Int) == 39) = true := by rw [h39]; rfl
                clear h39
                go_wp2_with fail
                refine (CL.out _).mono ?_
                rintro e wx ⟨rfl, hwx⟩
                obtain rfl := hwx.symm
                go_wp2
                go_roundg gk
                case rel => exact ⟨W, HO.out, HBw.out, .inl ⟨lp, la ++ [b], lr, true, K + 1, F, rfl, by go_num, HL2.out, HK2.out, by omega, by omega, by omega, by show ∀ b ∈ _, _; simpa using HA2.out, HI2.out, .inl ⟨rfl, by rw [HF.out]⟩⟩⟩
                case measure => omega
              · have e1 : ((x : Int) == 39) = false := by rw [h39]; rfl
                have e2 : ((x : Int) == 45) = true := by rw [h39]; rfl
                clear h39
                go_wp2_with fail
                refine (CL.out _).mono ?_
                rintro e wx ⟨rfl, hwx⟩
                obtain rfl := hwx.symm
                go_wp2
                go_roundg gk
                case rel => exact ⟨W, HO.out, HBw.out, .inl ⟨lp, la ++ [b], lr, true, K + 1, F, rfl, by go_num, HL2.out, HK2.out, by omega, by omega, by omega, by show ∀ b ∈ _, _; simpa using HA2.out, HI2.out, .inl ⟨rfl, by rw [HF.out]⟩⟩⟩
                case measure => omega
            · have hin : inN x = false := by unfold inN; rw [hlt, decide_eq_false h39]; rfl
              have e1 : ((x : Int) == 39) = false := beq_eq_false_iff_ne.2 (by omega)
              have e2 : ((x : Int) == 45) = false := beq_eq_false_iff_ne.2 (by omega)
              have hsl := run_mid2 lp la (b :: lr) F K hF HK.out (by omega)
              rw [← HL.out] at hsl
              have HI2 : Hid (ws none (tn l) = (W ++ [tn la]) ++ ws (stW false []) (tn lr)) := by
                show _ = _
                rw [HI.out, HTN.out]
                unfold stW
                rw [if_pos rfl, if_neg (by simp), ws_off _ hin, List.append_assoc]; rfl
              have hea : txt (enc (tn la)) = txt la := congrArg txt (enc_tn fun c hc => HA.out c (by simp [hc]))
              have HEA := Lib.hid hea
              have HL3 : Hid (l = (lp ++ (la ++ [b])) ++ ([] ++ lr)) := by show _ = _; rw [HL.out]; simp
              have HK3 : Hid ((lp ++ (la ++ [b])).length + ([] : List UInt8).length = K + 1) := by show _ = _; rw [List.length_append, HK2.out]; rfl
              clear hF hlt HI h8 hin h39 hea
              go_wp2_with fail
              refine (CL.out _).mono ?_
              rintro e wx ⟨rfl, hwx⟩
              obtain rfl := hwx.symm
              go_wp2_with (at_builtin; refine wpList_app1 rfl _ _ 22 9 rfl i0 (.string ⟨#[]⟩) 16 Tryd.underlying22 hi hz0 hz1 hz2 rfl w.heap.size _ W.length _ rfl HO.out (.string (txt la)) rfl rfl (by omega) (by omega) hbs ?_)
              intro ao2 cap2 w2 hown2 hb2 _
              have HO2 : Hid (w2.ownsRow w.heap.size 9 1 (.slice ao2 (W.length + 1) cap2) (W ++ [tn la]).length (strs (W ++ [tn la]))) := by
                show World.ownsRow _ _ _ _ _ _ _
                rw [List.length_append, strs_app, show strs [tn la] = [.string (txt la)] by simp [strs, HEA.out]]
                exact hown2
              have HB2 := Lib.hid (HBw.out.trans hb2)
              clear hown2 hb2
              go_wp2
              go_roundg gk
              case rel => exact ⟨W ++ [tn la], HO2.out, HB2.out, .inl ⟨lp ++ (la ++ [b]), [], lr, false, K + 1, -1, rfl, by go_num, HL3.out, HK3.out, by omega, by rw [List.length_append]; simp; omega, by omega, by show ∀ b ∈ _, _; simpa using HA2.out, HI2.out, .inr ⟨rfl, rfl, rfl⟩⟩⟩
              case measure => omega
          · have HI2 : Hid (ws none (tn l) = W ++ ws (stW false []) (tn lr)) := by
              show _ = _
              rw [HI.out, HTN.out]
              unfold stW
              rw [if_neg (by simp), ws_skip hlt]
            have HL3 : Hid (l = (lp ++ ([] ++ [b])) ++ ([] ++ lr)) := by show _ = _; rw [HL.out]; simp
            have HK3 : Hid ((lp ++ ([] ++ [b])).length + ([] : List UInt8).length = K + 1) := by show _ = _; rw [List.length_append, HK2.out]; rfl
            clear hlt HI h8
            go_wp2_with fail
            refine (CL.out _).mono ?_
            rintro e wx ⟨rfl, hwx⟩
            obtain rfl := hwx.symm
            go_wp2
            go_roundg gk
            case rel => exact ⟨W, HO.out, HBw.out, .inl ⟨lp ++ ([] ++ [b]), [], lr, false, K + 1, -1, rfl, by go_num, HL3.out, HK3.out, by omega, by omega, by omega, by show ∀ b ∈ _, _; simpa using HA2.out, HI2.out, .inr ⟨rfl, rfl, rfl⟩⟩⟩
            case measure => omega
    · have hgt : ¬ ((n : Int) + 1 ≤ (n : Int)) := by omega
      go_wp2
      go_ret2
      refine ⟨HBw.out, .inr ⟨HA.out, ?_⟩⟩
      rw [HI.out]
      exact ⟨ao, cap, rfl, HO.out⟩

end Go.Proofs.YthanbbflemkomaaDoor
