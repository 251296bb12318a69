/- FnLoadNotes: its walk. Conditions: the arguments' sizes, the tables that are laid. -/
import Derived.Test.YtgbfphaccjjdnaaGreatDoorLxNotesP
import Derived.Test.YtgbfphaccjjdnaaGreatDoorLxOpen
namespace Go.Proofs.YtgbfphaccjjdnaaGreatDoor
open Go.RowKit U8
open Go.Lib hiding intOf

theorem noteS_snoc (l : List Bool) (c : List UInt8) : ∀ (cs : List (List UInt8)) (i : Nat), noteS l i (cs ++ [c]) = noteS l i cs ++ (preN (sgnAt l (i + cs.length)) ++ (c ++ [10]))
  | [], i => by simp [noteS]
  | d :: cs, i => by
    rw [List.cons_append, noteS, noteS_snoc l c cs (i + 1), noteS, List.length_cons, show i + 1 + cs.length = i + (cs.length + 1) by omega]
    simp
theorem noteS_le (l : List Bool) : ∀ (cs : List (List UInt8)) (i : Nat), (noteS l i cs).length ≤ 3 * cs.length + szs cs
  | [], i => by simp [noteS, szs]
  | c :: cs, i => by
    have := noteS_le l cs (i + 1)
    have hp : (preN (sgnAt l i)).length ≤ 2 := by cases sgnAt l i <;> simp [preN]
    rw [noteS, szs_cons]
    simp only [List.length_append, List.length_cons, List.length_nil]
    omega
theorem sim_8 {l : List UInt8} (h : simB l = true) : simple8 l := by
  unfold simB at h
  rw [Bool.and_eq_true] at h
  refine ⟨?_, fun b hb => ?_⟩
  · rintro rfl
    have := of_decide_eq_true h.2
    simp at this
  · have h1 := List.all_eq_true.1 h.1 b hb
    simp [letN] at h1
    unfold alnR
    refine decide_eq_true ?_
    omega
set_option maxHeartbeats 12800000 in
set_option maxRecDepth 100000 in
theorem law_loadNotes (l0 : List (List UInt8)) (v0 : Value) (l1 : List Bool) (v1 : Value) (a2 a3 : ByteArray) (w : World) (t0 : Tx w v0 l0) (m0 : l0.length ≤ 9223372036854775807) (e0 : ∀ x ∈ l0, x.length ≤ 9223372036854775807) (t1 : Bl w v1 l1) (m1 : l1.length ≤ 9223372036854775807) (y2 : a2.size ≤ 140737488351232) (y3 : a3.size ≤ 140737488351232) (hT : Tabs w) :
    Calls Tryz.prog 4 #[v0, v1, .string a2, .string a3] w fun e w' => e = .returned (.bool true) ∧ Below w.heap.size w w' := by
  obtain ⟨K, rfl⟩ : ∃ l, a2 = txt l := ⟨a2.data.toList, (txt_data a2).symm⟩
  obtain ⟨V, rfl⟩ : ∃ l, a3 = txt l := ⟨a3.data.toList, (txt_data a3).symm⟩
  have hkz := txt_size K
  have hvz := txt_size V
  have CF := Lib.hid (fits_any l0 v0 w t0 m0 e0)
  have T0 := Lib.hid t0
  have T1 := Lib.hid t1
  have HT := Lib.hid hT
  obtain ⟨ao, cap, rfl, _, _⟩ := t0
  obtain ⟨bo, bcap, rfl, _⟩ := t1
  clear e0 hT
  obtain ⟨F, hF⟩ : ∃ F, fitsB l0 = F := ⟨_, rfl⟩
  rw [hF] at CF
  by_cases hbig : F = false ∨ (2147483647 : Int) < l1.length ∨ (2147483647 : Int) < K.length ∨ (2147483647 : Int) < V.length
  · clear hF
    cases F with
    | false =>
      clear hbig
      go_enter Tryz.func4, Tryz.ntmps4
      go_wp2_with fail
      refine CF.out.mono ?_
      rintro e w1 ⟨rfl, hw⟩
      obtain rfl := hw.symm
      go_wp2
      go_ret
      exact ⟨rfl, Below.refl _ _⟩
    | true =>
      rcases hbig with h | h | h | h
      · cases h
      all_goals
        go_enter Tryz.func4, Tryz.ntmps4
        go_wp2_with fail
        refine CF.out.mono ?_
        rintro e w1 ⟨rfl, hw⟩
        obtain rfl := hw.symm
        by_cases g1 : (2147483647 : Int) < l1.length
        · go_wp2
          go_ret
          exact ⟨rfl, Below.refl _ _⟩
        · by_cases g2 : (2147483647 : Int) < K.length
          · go_wp2
            go_ret
            exact ⟨rfl, Below.refl _ _⟩
          · by_cases g3 : (2147483647 : Int) < V.length
            · go_wp2
              go_ret
              exact ⟨rfl, Below.refl _ _⟩
            · exfalso; omega
  · have hFt : F = true := by
      cases F with
      | true => rfl
      | false => exact absurd (.inl rfl) hbig
    subst hFt
    have b1 : ¬ ((2147483647 : Int) < l1.length) := fun h => hbig (.inr (.inl h))
    have b2 : ¬ ((2147483647 : Int) < K.length) := fun h => hbig (.inr (.inr (.inl h)))
    have b3 : ¬ ((2147483647 : Int) < V.length) := fun h => hbig (.inr (.inr (.inr h)))
    clear hbig
    have hfz := fits_sz hF
    clear hF
    go_enter Tryz.func4, Tryz.ntmps4
    go_wp2_with fail
    refine CF.out.mono ?_
    rintro e w1 ⟨rfl, hw⟩
    obtain rfl := hw.symm
    clear CF
    have CC : Hid (Calls Tryz.prog 10 #[.string ⟨#[35, 32, 99, 10, 97, 61, 98]⟩, .int .i64 1, .bool true] w (ResP w (some [⟨[97], [98], [98], [[99]]⟩]))) := by
      have := loadP_plain [35, 32, 99, 10, 97, 61, 98] 1 w (.inr rfl) HT.out (by decide)
      rw [plain_c] at this
      exact this
    go_wp2_with fail
    refine CC.out.mono ?_
    rintro e w1 ⟨hb1, ⟨hn, _⟩ | ⟨ps, v, hps, rfl, hpx⟩⟩
    · cases hn
    cases hps
    obtain ⟨pao, pcap, rfl, hpc, hpp⟩ := hpx
    obtain ⟨g, o, cv, rfl, _, _, _, h3, htx⟩ := hpp 0 _ rfl
    have c3 : w1.cell? ⟨g, o + 3, none⟩ = some cv := by simpa using h3
    have HB1 := Lib.hid hb1
    have hs1 := hb1.size
    have HTX := Lib.hid htx
    obtain ⟨cao, ccap, rfl, _, _⟩ := htx
    have hgl := World.block_lt_of_cell? w1 _ c3
    simp only at hgl
    simp only [List.length_cons, List.length_nil, Nat.zero_add] at hpc
    have CE : Hid (Calls Tryz.prog 11 #[.slice cao 1 ccap, .slice (some ⟨w1.heap.size, 0, none⟩) 1 1] (w1.alloc (.cells #[.string ⟨#[99]⟩] 9)) fun e w' => e = .returned (.bool true) ∧ Below (w1.alloc (.cells #[.string ⟨#[99]⟩] 9)).heap.size (w1.alloc (.cells #[.string ⟨#[99]⟩] 9)) w') :=
      eq_texts [[99]] [[99]] (.slice cao 1 ccap) (.slice (some ⟨w1.heap.size, 0, none⟩) 1 1) _ (HTX.out.below ((Below.refl _ w1).alloc (Nat.le_refl _) _)) ⟨_, 1, rfl, Nat.le_refl _, fun j x hj => ⟨w1.heap.size, 0, rfl, by
        rw [Nat.zero_add, World.cell?_alloc_new]
        match j, hj with
        | 0, hj => simp at hj; subst hj; rfl⟩⟩ (by decide) (by decide)
    clear CC hb1 hpp h3 HTX
    go_wp2_with fail
    refine CE.out.mono ?_
    rintro e w2 ⟨rfl, hb2⟩
    have HB2 : Hid (Below w.heap.size w w2) := (HB1.out.alloc hs1 _).trans (hb2.mono (by simp; omega))
    have hs2 := HB2.out.size
    have CS := Lib.hid (seen_any l0 _ w2 (T0.out.below HB2.out) hfz)
    clear CE hb2 HB1 c3 hgl hpc
    go_wp2_with fail
    refine CS.out.mono ?_
    rintro e w3 ⟨rfl, hw3⟩
    obtain rfl := hw3.symm
    obtain ⟨S, hS⟩ : ∃ S, seenB l0 = S := ⟨_, rfl⟩
    rw [hS]
    clear CS
    cases S with
    | false =>
      go_wp2
      go_ret
      exact ⟨rfl, HB2.out⟩
    | true =>
      have hse : (l0.all fun x => x.all vis) = true ∧ l0.length + szs l0 ≤ 1000 := by
        unfold seenB at hS
        rw [Bool.and_eq_true] at hS
        exact ⟨hS.1, of_decide_eq_true hS.2⟩
      obtain ⟨hvis, hsz⟩ := hse
      have HVIS := Lib.hid hvis
      clear hS hvis hfz m0 m1
      go_wp2_with fail
      refine (simple_any K w2 (by omega)).mono ?_
      rintro e w3 ⟨rfl, hw3⟩
      obtain rfl := hw3.symm
      obtain ⟨SK, hSK⟩ : ∃ S, simB K = S := ⟨_, rfl⟩
      rw [hSK]
      cases SK with
      | false =>
        go_wp2
        go_ret
        exact ⟨rfl, HB2.out⟩
      | true =>
        have HSK : Hid (simple8 K) := sim_8 hSK
        clear hSK
        go_wp2_with fail
        refine (simple_any V w2 (by omega)).mono ?_
        rintro e w3 ⟨rfl, hw3⟩
        obtain rfl := hw3.symm
        obtain ⟨SV, hSV⟩ : ∃ S, simB V = S := ⟨_, rfl⟩
        rw [hSV]
        cases SV with
        | false =>
          go_wp2
          go_ret
          exact ⟨rfl, HB2.out⟩
        | true =>
          have HSV : Hid (simple8 V) := sim_8 hSV
          clear hSV
          by_cases h50 : (50 : Int) < l0.length
          · go_wp2
            go_ret
            exact ⟨rfl, HB2.out⟩
          by_cases h300 : (300 : Int) < (K.length : Int) + (V.length : Int)
          · go_wp2
            go_ret
            exact ⟨rfl, HB2.out⟩
          have HTB := Lib.hid (T0.out.below HB2.out)
          have HBB := Lib.hid (T1.out.below HB2.out)
          obtain ⟨_, _, e1, _, hx0⟩ := HTB.out
          cases e1
          obtain ⟨_, _, e2, hx1⟩ := HBB.out
          cases e2
          have HX0 := Lib.hid hx0
          have HX1 := Lib.hid hx1
          have HT0 := T0
          clear hx0 hx1 HTB HBB T0 T1
          go_wp2
          rcases (show l1 = [] ∨ 0 < l1.length by cases l1 <;> simp) with h1e | hpos1
          · subst h1e
            try simp only [List.length_nil] at *
            go_loopg [11, 12, 13, 14, 83] (l0.length + 1) (fun gk v11 v12 v13 v14 v83 wr => ∃ (j : Nat) (S : List UInt8), v83 = .int .i64 j ∧ v11 = .string (txt S) ∧ j ≤ l0.length ∧ l0.length - j < gk ∧ S.length ≤ 3 * j + 1004 ∧ Hid (S = [122, 61, 121, 10] ++ noteS [] 0 (l0.take j)) ∧ Hid (∀ c ∈ l0.take j, okN c) ∧ wr = w2)
            case atStart => exact ⟨0, [122, 61, 121, 10], rfl, rfl, by omega, by omega, by simp, (by show _ = _; simp [noteS]), (fun c hc => by simp at hc), rfl⟩
            case round =>
              obtain ⟨j, S, rfl, rfl, hj, hg, hSl, HS, HOK, hwr⟩ := hrel
              obtain rfl := hwr.symm
              by_cases hlt : j < l0.length
              · obtain ⟨gk, rfl⟩ : ∃ m, gk = m + 1 := ⟨gk - 1, by omega⟩
                have hx := List.getElem?_eq_getElem hlt
                have htk := List.take_succ_eq_append_getElem hlt
                generalize l0[j] = c at hx htk
                obtain ⟨gg, o1, rfl, cx⟩ := HX0.out j c hx
                have hcsz := szs_le hx
                have hvc : c.all vis = true := List.all_eq_true.1 HVIS.out c (List.mem_of_getElem? hx)
                have HVC := Lib.hid hvc
                have HTK := Lib.hid htk
                clear hx htk hvc
                by_cases hc0 : c = []
                · subst hc0
                  have he : ((txt ([] : List UInt8)).toList == ([] : List UInt8)) = true := by rw [txt_toList]; rfl
                  go_wp2
                  go_ret
                  exact ⟨rfl, HB2.out⟩
                have he : ((txt c).toList == ([] : List UInt8)) = false := by rw [txt_toList]; exact beq_eq_false_iff_ne.2 hc0
                have HC0 := Lib.hid hc0
                clear hc0
                go_wp2_with fail
                refine (begins_blank c w2).mono ?_
                rintro e w3 ⟨rfl, hw3⟩
                obtain rfl := hw3.symm
                obtain ⟨q, hq⟩ : ∃ q, (c.head? == some 32) = q := ⟨_, rfl⟩
                rw [hq]
                cases q with
                | true =>
                  go_wp2
                  go_ret
                  exact ⟨rfl, HB2.out⟩
                | false =>
                  have HOK2 : Hid (∀ c ∈ l0.take (j + 1), okN c) := by
                    show ∀ _ _, _
                    intro d hd
                    rw [HTK.out] at hd
                    rcases List.mem_append.1 hd with hd | hd
                    · exact HOK.out d hd
                    · simp at hd
                      subst hd
                      exact ⟨HC0.out, hq, HVC.out⟩
                  have hts := txt_size c
                  have htS := txt_size S
                  clear hq he
                  have HSG : Hid (sgnAt [] j = false) := by
                    show _ = _
                    rfl
                  have HAP : Hid (txt S ++ ((⟨#[35, 32]⟩ : ByteArray) ++ txt c ++ ⟨#[10]⟩) = txt (S ++ ([35, 32] ++ (c ++ [10])))) := by
                    show _ = _
                    rw [show ((⟨#[35, 32]⟩ : ByteArray) : ByteArray) = txt [35, 32] from rfl, show (⟨#[10]⟩ : ByteArray) = txt [10] from rfl, txt_append, txt_append, txt_append, List.append_assoc]
                  have z1 : (((⟨#[35, 32]⟩ : ByteArray) : ByteArray) ++ txt c).size = 2 + c.length := by rw [show ((⟨#[35, 32]⟩ : ByteArray) : ByteArray) = txt [35, 32] from rfl, txt_append, txt_size, List.length_append]; rfl
                  have z2 : (((⟨#[35, 32]⟩ : ByteArray) : ByteArray) ++ txt c ++ ⟨#[10]⟩).size = 2 + c.length + 1 := by rw [show ((⟨#[35, 32]⟩ : ByteArray) : ByteArray) = txt [35, 32] from rfl, show (⟨#[10]⟩ : ByteArray) = txt [10] from rfl, txt_append, txt_append, txt_size, List.length_append, List.length_append]; rfl
                  have HS2 : Hid (S ++ ([35, 32] ++ (c ++ [10])) = [122, 61, 121, 10] ++ noteS [] 0 (l0.take (j + 1))) := by
                    show _ = _
                    rw [HTK.out, noteS_snoc, HS.out, List.length_take, Nat.min_eq_left (by omega), Nat.zero_add, HSG.out, List.append_assoc]
                    rfl
                  have hlen2 : (S ++ ([35, 32] ++ (c ++ [10]))).length ≤ 3 * (j + 1) + 1004 := by
                    rw [HS2.out, List.length_append]
                    have h1 := noteS_le [] (l0.take (j + 1)) 0
                    have h2 := szs_take l0 (j + 1)
                    rw [List.length_take] at h1
                    simp only [List.length_cons, List.length_nil]
                    omega
                  have HL2 := Lib.hid hlen2
                  clear hlen2
                  go_wp2
                  go_roundg gk
                  case rel => exact ⟨j + 1, _, by go_num, congrArg Value.string HAP.out, by omega, by omega, HL2.out, HS2.out, HOK2.out, rfl⟩
                  case measure => omega
              · have hjl : j = l0.length := by omega
                have HN : Hid (S ++ (K ++ ([61] ++ (V ++ [10]))) = notesS [] l0 K V) := by
                  show _ = _
                  rw [HS.out, hjl, List.take_length]
                  unfold notesS
                  simp
                have HOKA : Hid (∀ c ∈ l0, okN c) := by
                  have := HOK.out
                  rw [hjl, List.take_length] at this
                  exact this
                have HAP : Hid (txt S ++ txt K ++ ⟨#[61]⟩ ++ txt V ++ ⟨#[10]⟩ = txt (notesS [] l0 K V)) := by
                  show _ = _
                  rw [show (⟨#[61]⟩ : ByteArray) = txt [61] from rfl, show (⟨#[10]⟩ : ByteArray) = txt [10] from rfl, txt_append, txt_append, txt_append, txt_append, ← HN.out]
                  simp
                have htS := txt_size S
                have z1 : (txt S ++ txt K).size = S.length + K.length := by rw [txt_append, txt_size, List.length_append]
                have z2 : (txt S ++ txt K ++ ⟨#[61]⟩).size = S.length + K.length + 1 := by rw [show (⟨#[61]⟩ : ByteArray) = txt [61] from rfl, txt_append, txt_append, txt_size, List.length_append, List.length_append]; rfl
                have z3 : (txt S ++ txt K ++ ⟨#[61]⟩ ++ txt V).size = S.length + K.length + 1 + V.length := by rw [show (⟨#[61]⟩ : ByteArray) = txt [61] from rfl, txt_append, txt_append, txt_append, txt_size, List.length_append, List.length_append, List.length_append]; rfl
                have hnl : (notesS [] l0 K V).length ≤ 50000 := by
                  rw [← HN.out]
                  simp only [List.length_append, List.length_cons, List.length_nil]
                  omega
                have CL := loadP_plain (notesS [] l0 K V) 1 w2 (.inr rfl) (HT.out.below HB2.out) hnl
                rw [← HAP.out] at CL
                clear hjl hnl
                by_cases hz : K = [122]
                · subst hz
                  have hez : ((txt [122]).toList == ([122] : List UInt8)) = true := by rw [txt_toList]; rfl
                  have CL2 := Lib.hid CL
                  clear CL
                  go_wp2_with fail
                  refine CL2.out.mono ?_
                  rintro e w3 ⟨hb3, ⟨_, rfl⟩ | ⟨ps, v, _, rfl, _⟩⟩
                  all_goals
                    have HB3 := Lib.hid (HB2.out.trans (hb3.mono hs2))
                    clear hb3
                    go_wp2
                    go_ret
                    exact ⟨rfl, HB3.out⟩
                · have hez : ((txt K).toList == ([122] : List UInt8)) = false := by rw [txt_toList]; exact beq_eq_false_iff_ne.2 hz
                  obtain ⟨p0, hp0⟩ := plain_notes [] l0 K V HOKA.out HSK.out HSV.out hz
                  rw [hp0] at CL
                  have CL2 := Lib.hid CL
                  clear CL hp0 hz
                  go_wp2_with fail
                  refine CL2.out.mono ?_
                  rintro e w3 ⟨hb3, ⟨hn, _⟩ | ⟨ps, v, hps, rfl, hpx⟩⟩
                  · cases hn
                  cases hps
                  have HB3 := Lib.hid (HB2.out.trans (hb3.mono hs2))
                  have hs3 := HB3.out.size
                  obtain ⟨qao, qcap, rfl, hqc, hqp⟩ := hpx
                  obtain ⟨g3, o3, cv3, rfl, h30, h31, _, h33, htx3⟩ := hqp 1 _ rfl
                  have d0 : w3.cell? ⟨g3, o3 + 4, none⟩ = some (.string (txt K)) := by simpa using h30
                  have d1 : w3.cell? ⟨g3, o3 + 5, none⟩ = some (.string (txt V)) := by simpa [Nat.add_assoc] using h31
                  have d3 : w3.cell? ⟨g3, o3 + 7, none⟩ = some cv3 := by simpa [Nat.add_assoc] using h33
                  have HTX3 := Lib.hid htx3
                  obtain ⟨cao3, ccap3, rfl, _, _⟩ := htx3
                  have HT3 : Hid (Tx w3 (.slice ao l0.length cap) l0) := HT0.out.below HB3.out
                  simp only [List.length_cons, List.length_nil, Nat.zero_add] at hqc
                  clear hb3 CL2 hqp h30 h31 h33
                  go_wp2_with fail
                  refine (eq_texts l0 l0 _ _ w3 HTX3.out HT3.out (by omega) (by omega)).mono ?_
                  rintro e w4 ⟨rfl, hb4⟩
                  rw [decide_eq_true rfl]
                  have HB4 := Lib.hid (HB3.out.trans (hb4.mono hs3))
                  clear hb4
                  go_wp2
                  go_ret
                  exact ⟨rfl, HB4.out⟩
          · have hpos2 := hpos1
            go_loopg [11, 12, 13, 14, 83] (l0.length + 1) (fun gk v11 v12 v13 v14 v83 wr => ∃ (j : Nat) (S : List UInt8), v83 = .int .i64 j ∧ v11 = .string (txt S) ∧ j ≤ l0.length ∧ l0.length - j < gk ∧ S.length ≤ 3 * j + 1004 ∧ Hid (S = [122, 61, 121, 10] ++ noteS l1 0 (l0.take j)) ∧ Hid (∀ c ∈ l0.take j, okN c) ∧ wr = w2)
            case atStart => exact ⟨0, [122, 61, 121, 10], rfl, rfl, by omega, by omega, by simp, (by show _ = _; simp [noteS]), (fun c hc => by simp at hc), rfl⟩
            case round =>
              obtain ⟨j, S, rfl, rfl, hj, hg, hSl, HS, HOK, hwr⟩ := hrel
              obtain rfl := hwr.symm
              by_cases hlt : j < l0.length
              · obtain ⟨gk, rfl⟩ : ∃ m, gk = m + 1 := ⟨gk - 1, by omega⟩
                have hx := List.getElem?_eq_getElem hlt
                have htk := List.take_succ_eq_append_getElem hlt
                generalize l0[j] = c at hx htk
                obtain ⟨gg, o1, rfl, cx⟩ := HX0.out j c hx
                have hcsz := szs_le hx
                have hvc : c.all vis = true := List.all_eq_true.1 HVIS.out c (List.mem_of_getElem? hx)
                have HVC := Lib.hid hvc
                have HTK := Lib.hid htk
                clear hx htk hvc
                by_cases hc0 : c = []
                · subst hc0
                  have he : ((txt ([] : List UInt8)).toList == ([] : List UInt8)) = true := by rw [txt_toList]; rfl
                  go_wp2
                  go_ret
                  exact ⟨rfl, HB2.out⟩
                have he : ((txt c).toList == ([] : List UInt8)) = false := by rw [txt_toList]; exact beq_eq_false_iff_ne.2 hc0
                have HC0 := Lib.hid hc0
                clear hc0
                go_wp2_with fail
                refine (begins_blank c w2).mono ?_
                rintro e w3 ⟨rfl, hw3⟩
                obtain rfl := hw3.symm
                obtain ⟨q, hq⟩ : ∃ q, (c.head? == some 32) = q := ⟨_, rfl⟩
                rw [hq]
                cases q with
                | true =>
                  go_wp2
                  go_ret
                  exact ⟨rfl, HB2.out⟩
                | false =>
                  have HOK2 : Hid (∀ c ∈ l0.take (j + 1), okN c) := by
                    show ∀ _ _, _
                    intro d hd
                    rw [HTK.out] at hd
                    rcases List.mem_append.1 hd with hd | hd
                    · exact HOK.out d hd
                    · simp at hd
                      subst hd
                      exact ⟨HC0.out, hq, HVC.out⟩
                  have hts := txt_size c
                  have htS := txt_size S
                  clear hq he
                  obtain ⟨q, hqd⟩ : ∃ q, j % l1.length = q := ⟨_, rfl⟩
                  have hql : q < l1.length := by rw [← hqd]; exact Nat.mod_lt _ (by omega)
                  have hpos : (0 : Int) < (l1.length : Int) := by omega
                  have hne0 : ¬ ((l1.length : Int) = 0) := by omega
                  have hr1 : (j : Int) % (l1.length : Int) = (q : Int) := by rw [← hqd]; rfl
                  have hr2 : (j : Int).tmod (l1.length : Int) = (q : Int) := by rw [← hqd]; rfl
                  have hb := List.getElem?_eq_getElem hql
                  have hsg : sgnAt l1 j = l1[q] := by unfold sgnAt; rw [hqd, hb]; rfl
                  generalize l1[q] = bb at hb hsg
                  obtain ⟨gb, ob, rfl, bx⟩ := HX1.out q bb hb
                  have HSG := Lib.hid hsg
                  clear hqd hb hsg
                  cases bb with
                  | false =>
                    have HAP : Hid (txt S ++ ((⟨#[35, 32]⟩ : ByteArray) ++ txt c ++ ⟨#[10]⟩) = txt (S ++ ([35, 32] ++ (c ++ [10])))) := by
                      show _ = _
                      rw [show ((⟨#[35, 32]⟩ : ByteArray) : ByteArray) = txt [35, 32] from rfl, show (⟨#[10]⟩ : ByteArray) = txt [10] from rfl, txt_append, txt_append, txt_append, List.append_assoc]
                    have z1 : (((⟨#[35, 32]⟩ : ByteArray) : ByteArray) ++ txt c).size = 2 + c.length := by rw [show ((⟨#[35, 32]⟩ : ByteArray) : ByteArray) = txt [35, 32] from rfl, txt_append, txt_size, List.length_append]; rfl
                    have z2 : (((⟨#[35, 32]⟩ : ByteArray) : ByteArray) ++ txt c ++ ⟨#[10]⟩).size = 2 + c.length + 1 := by rw [show ((⟨#[35, 32]⟩ : ByteArray) : ByteArray) = txt [35, 32] from rfl, show (⟨#[10]⟩ : ByteArray) = txt [10] from rfl, txt_append, txt_append, txt_size, List.length_append, List.length_append]; rfl
                    have HS2 : Hid (S ++ ([35, 32] ++ (c ++ [10])) = [122, 61, 121, 10] ++ noteS l1 0 (l0.take (j + 1))) := by
                      show _ = _
                      rw [HTK.out, noteS_snoc, HS.out, List.length_take, Nat.min_eq_left (by omega), Nat.zero_add, HSG.out, List.append_assoc]
                      rfl
                    have hlen2 : (S ++ ([35, 32] ++ (c ++ [10]))).length ≤ 3 * (j + 1) + 1004 := by
                      rw [HS2.out, List.length_append]
                      have h1 := noteS_le l1 (l0.take (j + 1)) 0
                      have h2 := szs_take l0 (j + 1)
                      rw [List.length_take] at h1
                      simp only [List.length_cons, List.length_nil]
                      omega
                    have HL2 := Lib.hid hlen2
                    clear hlen2
                    go_wp2
                    go_roundg gk
                    case rel => exact ⟨j + 1, _, by go_num, congrArg Value.string HAP.out, by omega, by omega, HL2.out, HS2.out, HOK2.out, rfl⟩
                    case measure => omega
                  | true =>
                    have HAP : Hid (txt S ++ ((⟨#[33]⟩ : ByteArray) ++ txt c ++ ⟨#[10]⟩) = txt (S ++ ([33] ++ (c ++ [10])))) := by
                      show _ = _
                      rw [show ((⟨#[33]⟩ : ByteArray) : ByteArray) = txt [33] from rfl, show (⟨#[10]⟩ : ByteArray) = txt [10] from rfl, txt_append, txt_append, txt_append, List.append_assoc]
                    have z1 : (((⟨#[33]⟩ : ByteArray) : ByteArray) ++ txt c).size = 1 + c.length := by rw [show ((⟨#[33]⟩ : ByteArray) : ByteArray) = txt [33] from rfl, txt_append, txt_size, List.length_append]; rfl
                    have z2 : (((⟨#[33]⟩ : ByteArray) : ByteArray) ++ txt c ++ ⟨#[10]⟩).size = 1 + c.length + 1 := by rw [show ((⟨#[33]⟩ : ByteArray) : ByteArray) = txt [33] from rfl, show (⟨#[10]⟩ : ByteArray) = txt [10] from rfl, txt_append, txt_append, txt_size, List.length_append, List.length_append]; rfl
                    have HS2 : Hid (S ++ ([33] ++ (c ++ [10])) = [122, 61, 121, 10] ++ noteS l1 0 (l0.take (j + 1))) := by
                      show _ = _
                      rw [HTK.out, noteS_snoc, HS.out, List.length_take, Nat.min_eq_left (by omega), Nat.zero_add, HSG.out, List.append_assoc]
                      rfl
                    have hlen2 : (S ++ ([33] ++ (c ++ [10]))).length ≤ 3 * (j + 1) + 1004 := by
                      rw [HS2.out, List.length_append]
                      have h1 := noteS_le l1 (l0.take (j + 1)) 0
                      have h2 := szs_take l0 (j + 1)
                      rw [List.length_take] at h1
                      simp only [List.length_cons, List.length_nil]
                      omega
                    have HL2 := Lib.hid hlen2
                    clear hlen2
                    go_wp2
                    go_roundg gk
                    case rel => exact ⟨j + 1, _, by go_num, congrArg Value.string HAP.out, by omega, by omega, HL2.out, HS2.out, HOK2.out, rfl⟩
                    case measure => omega
              · have hjl : j = l0.length := by omega
                have HN : Hid (S ++ (K ++ ([61] ++ (V ++ [10]))) = notesS l1 l0 K V) := by
                  show _ = _
                  rw [HS.out, hjl, List.take_length]
                  unfold notesS
                  simp
                have HOKA : Hid (∀ c ∈ l0, okN c) := by
                  have := HOK.out
                  rw [hjl, List.take_length] at this
                  exact this
                have HAP : Hid (txt S ++ txt K ++ ⟨#[61]⟩ ++ txt V ++ ⟨#[10]⟩ = txt (notesS l1 l0 K V)) := by
                  show _ = _
                  rw [show (⟨#[61]⟩ : ByteArray) = txt [61] from rfl, show (⟨#[10]⟩ : ByteArray) = txt [10] from rfl, txt_append, txt_append, txt_append, txt_append, ← HN.out]
                  simp
                have htS := txt_size S
                have z1 : (txt S ++ txt K).size = S.length + K.length := by rw [txt_append, txt_size, List.length_append]
                have z2 : (txt S ++ txt K ++ ⟨#[61]⟩).size = S.length + K.length + 1 := by rw [show (⟨#[61]⟩ : ByteArray) = txt [61] from rfl, txt_append, txt_append, txt_size, List.length_append, List.length_append]; rfl
                have z3 : (txt S ++ txt K ++ ⟨#[61]⟩ ++ txt V).size = S.length + K.length + 1 + V.length := by rw [show (⟨#[61]⟩ : ByteArray) = txt [61] from rfl, txt_append, txt_append, txt_append, txt_size, List.length_append, List.length_append, List.length_append]; rfl
                have hnl : (notesS l1 l0 K V).length ≤ 50000 := by
                  rw [← HN.out]
                  simp only [List.length_append, List.length_cons, List.length_nil]
                  omega
                have CL := loadP_plain (notesS l1 l0 K V) 1 w2 (.inr rfl) (HT.out.below HB2.out) hnl
                rw [← HAP.out] at CL
                clear hjl hnl
                by_cases hz : K = [122]
                · subst hz
                  have hez : ((txt [122]).toList == ([122] : List UInt8)) = true := by rw [txt_toList]; rfl
                  have CL2 := Lib.hid CL
                  clear CL
                  go_wp2_with fail
                  refine CL2.out.mono ?_
                  rintro e w3 ⟨hb3, ⟨_, rfl⟩ | ⟨ps, v, _, rfl, _⟩⟩
                  all_goals
                    have HB3 := Lib.hid (HB2.out.trans (hb3.mono hs2))
                    clear hb3
                    go_wp2
                    go_ret
                    exact ⟨rfl, HB3.out⟩
                · have hez : ((txt K).toList == ([122] : List UInt8)) = false := by rw [txt_toList]; exact beq_eq_false_iff_ne.2 hz
                  obtain ⟨p0, hp0⟩ := plain_notes l1 l0 K V HOKA.out HSK.out HSV.out hz
                  rw [hp0] at CL
                  have CL2 := Lib.hid CL
                  clear CL hp0 hz
                  go_wp2_with fail
                  refine CL2.out.mono ?_
                  rintro e w3 ⟨hb3, ⟨hn, _⟩ | ⟨ps, v, hps, rfl, hpx⟩⟩
                  · cases hn
                  cases hps
                  have HB3 := Lib.hid (HB2.out.trans (hb3.mono hs2))
                  have hs3 := HB3.out.size
                  obtain ⟨qao, qcap, rfl, hqc, hqp⟩ := hpx
                  obtain ⟨g3, o3, cv3, rfl, h30, h31, _, h33, htx3⟩ := hqp 1 _ rfl
                  have d0 : w3.cell? ⟨g3, o3 + 4, none⟩ = some (.string (txt K)) := by simpa using h30
                  have d1 : w3.cell? ⟨g3, o3 + 5, none⟩ = some (.string (txt V)) := by simpa [Nat.add_assoc] using h31
                  have d3 : w3.cell? ⟨g3, o3 + 7, none⟩ = some cv3 := by simpa [Nat.add_assoc] using h33
                  have HTX3 := Lib.hid htx3
                  obtain ⟨cao3, ccap3, rfl, _, _⟩ := htx3
                  have HT3 : Hid (Tx w3 (.slice ao l0.length cap) l0) := HT0.out.below HB3.out
                  simp only [List.length_cons, List.length_nil, Nat.zero_add] at hqc
                  clear hb3 CL2 hqp h30 h31 h33
                  go_wp2_with fail
                  refine (eq_texts l0 l0 _ _ w3 HTX3.out HT3.out (by omega) (by omega)).mono ?_
                  rintro e w4 ⟨rfl, hb4⟩
                  rw [decide_eq_true rfl]
                  have HB4 := Lib.hid (HB3.out.trans (hb4.mono hs3))
                  clear hb4
                  go_wp2
                  go_ret
                  exact ⟨rfl, HB4.out⟩
end Go.Proofs.YtgbfphaccjjdnaaGreatDoor
