/- FnLoadKeys: its walk. Conditions: the tables that are laid. -/
import Derived.Test.YtgbfphaccjjdnaaDoorLxLoadM
import Derived.Test.YtgbfphaccjjdnaaDoorLxHelp
namespace Go.Proofs.YtgbfphaccjjdnaaDoor
open Go.RowKit U8
open Go.Lib hiding intOf

theorem plain_keys {T : List UInt8} {ps : List PropA} (h : plainR T = some ps) : (ps.map PropA.k).Nodup ∧ ∀ p ∈ ps, p.k ≠ [] := by
  unfold plainR at h
  cases hp : parseM (lexT T) [] [] [] with
  | none => rw [hp] at h; cases h
  | some r =>
    obtain ⟨kv, cs⟩ := r
    rw [hp] at h
    have h2 : kv.map (mkP Prod.snd cs) = ps := Option.some.inj h
    obtain ⟨k1, k2⟩ := parse_keys _ _ [] kv [] cs [] (Nat.le_refl _) (fun i hi => lexM_keys _ _ _ i hi) hp (by simp) (fun p hp => by cases hp)
    subst h2
    refine ⟨?_, fun p hp => ?_⟩
    · rw [List.map_map]; exact k1
    · obtain ⟨q, hq, rfl⟩ := List.mem_map.1 hp
      exact k2 q hq
set_option maxHeartbeats 1600000 in
theorem few_any (s : List UInt8) (w : World) (hs : s.length ≤ 2147483647) :
    Calls Tryd.prog 5 #[.slice (some ⟨w.heap.size, 0, none⟩) 1 1] (w.alloc (.cells #[.string (txt s)] 9)) fun e w' => e = .returned (.bool (decide (s.length + 1 ≤ 400))) ∧ w' = w.alloc (.cells #[.string (txt s)] 9) := by
  have HT : Tx (w.alloc (.cells #[.string (txt s)] 9)) (.slice (some ⟨w.heap.size, 0, none⟩) 1 1) [s] := ⟨_, 1, rfl, Nat.le_refl _, fun j x hj => ⟨w.heap.size, 0, rfl, by
    rw [Nat.zero_add, World.cell?_alloc_new]
    match j, hj with
    | 0, hj => simp at hj; subst hj; rfl⟩⟩
  have C := Lib.hid (size_any [s] _ _ HT (by simp [szs]; omega))
  clear HT
  go_enter Tryd.func5, Tryd.ntmps5
  go_wp2_with fail
  refine C.out.mono ?_
  rintro e w1 ⟨rfl, hw1⟩
  obtain rfl := hw1.symm
  have hz : ([s].length + szs [s] : Nat) = s.length + 1 := by simp [szs]; omega
  rw [hz]
  have hd : decide (((s.length + 1 : Nat) : Int) ≤ 400) = decide (s.length + 1 ≤ 400) := by
    by_cases h : s.length + 1 ≤ 400
    · rw [decide_eq_true h, decide_eq_true (by omega)]
    · rw [decide_eq_false h, decide_eq_false (by omega)]
  have HD := Lib.hid hd
  clear hd hz
  go_wp2
  go_ret
  refine ⟨?_, rfl⟩
  rw [← HD.out]
  first | rfl | simp
set_option maxHeartbeats 12800000 in
set_option maxRecDepth 100000 in
theorem law_loadKeys (a0 : ByteArray) (w : World) (y0 : a0.size ≤ 140737488351232) (hT : Tabs w) :
    Calls Tryd.prog 3 #[.string a0] w fun e w' => e = .returned (.bool true) ∧ Below w.heap.size w w' := by
  obtain ⟨s, rfl⟩ : ∃ l, a0 = txt l := ⟨a0.data.toList, (txt_data a0).symm⟩
  have hz := txt_size s
  have HT := Lib.hid hT
  clear hT
  by_cases hbig : (2147483647 : Int) < s.length
  · go_enter Tryd.func3, Tryd.ntmps3
    go_wp2
    go_ret
    exact ⟨rfl, Below.refl _ _⟩
  have CL := Lib.hid (loads_any w HT.out)
  go_enter Tryd.func3, Tryd.ntmps3
  go_wp2_with fail
  refine CL.out.mono ?_
  rintro e w1 ⟨rfl, hb1⟩
  have HB1 := Lib.hid hb1
  have hs1 := hb1.size
  clear hb1 CL
  go_wp2_with fail
  refine (few_any s w1 (by omega)).mono ?_
  rintro e w2 ⟨rfl, rfl⟩
  have HB2 : Hid (Below w.heap.size w (w1.alloc (.cells #[.string (txt s)] 9))) := HB1.out.alloc hs1 _
  by_cases hf : s.length + 1 ≤ 400
  · rw [decide_eq_true hf]
    have CP := Lib.hid (loadP_plain s 1 (w1.alloc (.cells #[.string (txt s)] 9)) (.inr rfl) (HT.out.below HB2.out) (by omega))
    have hs2 : w.heap.size ≤ (w1.alloc (.cells #[.string (txt s)] 9)).heap.size := HB2.out.size
    go_wp2_with fail
    refine CP.out.mono ?_
    rintro e w3 ⟨hb3, ⟨_, rfl⟩ | ⟨ps, v, hps, rfl, hpx⟩⟩
    · have HB3 := Lib.hid (HB2.out.trans (hb3.mono hs2))
      clear hb3 CP
      go_wp2
      go_loopg [25] 1 (fun gk v25 wr => v25 = .int .i64 0 ∧ wr = w3)
      case atStart => exact ⟨rfl, rfl⟩
      case round =>
        obtain ⟨rfl, hwr⟩ := hrel
        obtain rfl := hwr.symm
        go_wp2
        go_ret
        exact ⟨rfl, HB3.out⟩
    · have HB3 := Lib.hid (HB2.out.trans (hb3.mono hs2))
      obtain ⟨hnd, hne⟩ := plain_keys hps
      have HND := Lib.hid hnd
      have HNE := Lib.hid hne
      have hpl : ps.length ≤ 1000000 := by
        have := hps
        unfold plainR at this
        cases hp : parseM (lexT (bomS s)) [] [] [] with
        | none => rw [hp] at this; cases this
        | some r =>
          rw [hp] at this
          have h2 : r.1.map (mkP Prod.snd r.2) = ps := Option.some.inj this
          have hb := bomS_le s
          rw [← h2, List.length_map]
          exact (parse_small (by omega) hp).1
      obtain ⟨ao, cap, rfl, hcap, hx⟩ := hpx
      have HX := Lib.hid hx
      have hs3 := HB3.out.size
      clear hb3 CP hx hps hnd hne
      go_wp2
      go_loopg [5, 6, 25] (ps.length + 1) (fun gk v5 v6 v25 wr => ∃ j : Nat, v25 = .int .i64 j ∧ j ≤ ps.length ∧ ps.length - j < gk ∧ Hid (Below w3.heap.size w3 wr))
      case atStart => exact ⟨0, rfl, by omega, by omega, Below.refl _ _⟩
      case round =>
        obtain ⟨j, rfl, hj, hg, HB⟩ := hrel
        have hbs := HB.out.size
        by_cases hlt : j < ps.length
        · obtain ⟨g1, rfl⟩ : ∃ m, gk = m + 1 := ⟨gk - 1, by omega⟩
          have hp := List.getElem?_eq_getElem hlt
          generalize ps[j] = p at hp
          obtain ⟨g, o, cv, rfl, h0, h1, h2, h3, h4⟩ := HX.out j p hp
          have c : ∀ {q : Addr} {u : Value}, w3.cell? q = some u → wr.cell? q = some u := fun {q u} h => (HB.out.cell (World.block_lt_of_cell? w3 _ h)).trans h
          have d0 := c h0
          have d1 := c h1
          have d2 := c h2
          have d3 := c h3
          obtain ⟨cao, ccap, rfl, _, _⟩ := h4
          have hk0 := HNE.out p (List.mem_of_getElem? hp)
          have he : ((txt p.k).toList == ([] : List UInt8)) = false := by rw [txt_toList]; exact beq_eq_false_iff_ne.2 hk0
          have HP := Lib.hid hp
          clear h0 h1 h2 h3 c hp hk0
          obtain ⟨pk, pr, px, pc⟩ := p
          simp only at d0 d1 d2 d3 he
          have HX6 : Hid ((wr.alloc (.cells #[.string (txt pk), .string (txt pr), .string (txt px), .slice cao pc.length ccap] 29)).cell? ⟨wr.heap.size, 0, none⟩ = some (.string (txt pk))) := by
            show _ = _
            rw [World.cell?_alloc_new]; rfl
          have HBW : Hid (Below w3.heap.size w3 (wr.alloc (.cells #[.string (txt pk), .string (txt pr), .string (txt px), .slice cao pc.length ccap] 29))) := HB.out.alloc hbs _
          have hXl : wr.heap.size < (wr.alloc (.cells #[.string (txt pk), .string (txt pr), .string (txt px), .slice cao pc.length ccap] 29)).heap.size := by simp
          have HXL := Lib.hid hXl
          clear hXl
          go_wp2
          generalize wr.alloc _ = W2 at *
          generalize wr.heap.size = X6 at *
          clear d0 d1 d2 d3 HB hbs
          go_loopg [8, 37] (j + 1) (fun gk v8 v37 wr => ∃ i : Nat, v37 = .int .i64 i ∧ i ≤ j ∧ j - i < gk ∧ Hid (Below W2.heap.size W2 wr))
          case atStart => exact ⟨0, rfl, by omega, by omega, Below.refl _ _⟩
          case round =>
            obtain ⟨i, rfl, hi, hg2, HBI⟩ := hrel
            have hbi := HBI.out.size
            have hxl : X6 < wr.heap.size := by have := HXL.out; omega
            have cX : wr.cell? ⟨X6, 0, none⟩ = some (.string (txt pk)) := (HBI.out.cell (p := ⟨X6, 0, none⟩) HXL.out).trans HX6.out
            have HB3I := Lib.hid (HBW.out.trans (HBI.out.mono HBW.out.size))
            by_cases hlt2 : i < j
            · obtain ⟨gk, rfl⟩ : ∃ m, gk = m + 1 := ⟨gk - 1, by omega⟩
              have hq := List.getElem?_eq_getElem (show i < ps.length by omega)
              generalize ps[i] = q at hq
              obtain ⟨g, o, cv, e0, h0, h1, h2, h3, h4⟩ := HX.out i q hq
              cases e0
              have c : ∀ {q : Addr} {u : Value}, w3.cell? q = some u → wr.cell? q = some u := fun {q u} h => (HB3I.out.cell (World.block_lt_of_cell? w3 _ h)).trans h
              have d0 := c h0
              have d1 := c h1
              have d2 := c h2
              have d3 := c h3
              obtain ⟨cao2, ccap2, rfl, _, _⟩ := h4
              have hqp : q.k ≠ pk := by
                intro e
                have h1 : (ps.map PropA.k)[i]? = some pk := by rw [List.getElem?_map, hq, ← e]; rfl
                have h2 : (ps.map PropA.k)[j]? = some pk := by rw [List.getElem?_map, HP.out]; rfl
                have hil : i < (ps.map PropA.k).length := by rw [List.length_map]; omega
                have hjl : j < (ps.map PropA.k).length := by rw [List.length_map]; omega
                have hne := List.pairwise_iff_getElem.1 HND.out i j hil hjl hlt2
                rw [List.getElem?_eq_getElem hil] at h1
                rw [List.getElem?_eq_getElem hjl] at h2
                exact hne ((Option.some.inj h1).trans (Option.some.inj h2).symm)
              have heq : ((txt q.k).toList == (txt pk).toList) = false := by rw [txt_toList, txt_toList]; exact beq_eq_false_iff_ne.2 hqp
              clear h0 h1 h2 h3 c hq hqp
              obtain ⟨qk, qr, qx, qc⟩ := q
              simp only at d0 d1 d2 d3 heq
              have HBN := Lib.hid (HBI.out.alloc hbi (.cells #[.string (txt qk), .string (txt qr), .string (txt qx), .slice cao2 qc.length ccap2] 29))
              go_wp2
              go_roundg gk
              case rel => exact ⟨i + 1, by go_num, by omega, by omega, HBN.out⟩
              case measure => omega
            · go_wp2
              go_roundg g1
              case rel => exact ⟨j + 1, by go_num, by omega, by omega, HB3I.out⟩
              case measure => omega
        · go_wp2
          go_ret
          exact ⟨rfl, HB3.out.trans (HB.out.mono hs3)⟩
  · rw [decide_eq_false hf]
    go_wp2
    go_ret
    exact ⟨rfl, HB2.out⟩
end Go.Proofs.YtgbfphaccjjdnaaDoor
