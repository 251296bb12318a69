/- properties.expand: its walk, wherever its plain form ends. -/
import Derived.Test.YtdfhidnhkeapbaaGreatDoorLxExpand
namespace Go.Proofs.YtdfhidnhkeapbaaGreatDoor
open Go.RowKit U8
open Go.Lib hiding intOf

theorem neq_nil_iface (w : World) : (binOp .neq 90 .nilIface .nilIface).run Tryz.prog w = .ok (.bool false) w := by kernel_rfl
theorem add0 (g j : Nat) : (⟨g, 0, none⟩ : Addr).add j = ⟨g, j, none⟩ := by unfold Addr.add; split <;> simp_all
set_option maxHeartbeats 12800000 in
set_option maxRecDepth 100000 in
theorem expand_any (B m : Nat) (kv : KV2) (hn : (kv.map Prod.fst).Nodup) (N : Nat) (hN : N ≤ 1000000) : ∀ (d : Nat) (ks : List (List UInt8)) (s : List UInt8) (R : Option (List UInt8)) (vks : Value) (W : World), exD kv N d ks s = some R → MB m (kvW (sV kv)) W → W.ownsRow B 9 1 vks ks.length (strsV ks) → B ≤ W.heap.size → ks.length ≤ 1000 →
    Calls Tryz.prog 72 #[.string (txt s), vks, .string ⟨#[36, 123]⟩, .string ⟨#[125]⟩, .map (some m)] W (ExpP B vks ks.length ks R W)
  | 0, ks, s, R, vks, W, h, hm, hown, hB, hkl => by cases h
  | d + 1, ks, s, R, vks, W, h, hm, hown, hB, hkl => by
    have IH := Lib.hid (expand_any B m kv hn N hN d)
    obtain ⟨i0, hi, hz0, hz1, hz2⟩ := info_parts Tryz.infoStr
    obtain ⟨ao, cap, rfl⟩ := owns_slice hown
    have HM := Lib.hid hm
    have HO := Lib.hid hown
    have HNK := Lib.hid hn
    unfold exD at h
    clear hm hown hn
    by_cases h64 : (64 : Int) < ks.length
    · rw [if_pos (by omega)] at h
      cases h
      have HO2 : Hid ((W.alloc (.cells #[.string ⟨#[101, 120, 112, 97, 110, 115, 105, 111, 110, 32, 116, 111, 111, 32, 100, 101, 101, 112]⟩] 163)).ownsRow B 9 1 (.slice ao ks.length cap) ks.length (strsV ks)) := HO.out.alloc _
      have HB2 : Hid (Below B W (W.alloc (.cells #[.string ⟨#[101, 120, 112, 97, 110, 115, 105, 111, 110, 32, 116, 111, 111, 32, 100, 101, 101, 112]⟩] 163))) := (Below.refl B W).alloc hB _
      go_enter Tryz.func72, Tryz.ntmps72
      go_wp2_with fail
      refine (errNew _ W).mono ?_
      rintro e w1 ⟨rfl, rfl⟩
      go_wp2
      go_ret2
      exact ⟨⟨_, rfl⟩, HO2.out, HB2.out, fun r hr _ => al_old _ _ _ hr⟩
    · rw [if_neg (by omega)] at h
      have HX := Lib.hid h
      clear h
      go_enter Tryz.func72, Tryz.ntmps72
      go_wp2
      go_loopg [0, 12, 13, 14, 15, 16, 18, 19, 20, 21, 59] N (fun gk v0 v12 v13 v14 v15 v16 v18 v19 v20 v21 v59 wr => ∃ s : List UInt8, v0 = .string (txt s) ∧ Hid (exL (exD kv N d) kv ks gk s = some R) ∧ Hid (wr.ownsRow B 9 1 (.slice ao ks.length cap) ks.length (strsV ks)) ∧ Hid (MB m (kvW (sV kv)) wr) ∧ Hid (Below B W wr) ∧ Hid (∀ r, r < W.heap.size → (Value.slice ao ks.length cap).ownBlock ≠ some r → wr.heap[r]? = W.heap[r]?))
      case atStart => exact ⟨s, rfl, HX.out, HO.out, HM.out, Below.refl _ _, fun _ _ _ => rfl⟩
      case round =>
        obtain ⟨s, rfl, HX, HO, HM, HB, HK⟩ := hrel
        have hbs := HB.out.size
        have hws : W.heap.size ≤ wr.heap.size := HB.out.size
        cases gk with
        | zero => have := HX.out; cases this
        | succ g1 =>
        have hx := HX.out
        unfold exL at hx
        clear HX
        by_cases hlen : 100000000000000000 < s.length
        · rw [if_pos hlen] at hx; cases hx
        rw [if_neg hlen] at hx
        have hsl : s.length ≤ 100000000000000000 := by omega
        have hts := txt_size s
        clear hlen
        have c1 := idx_any s [36, 123] wr (by omega) (by decide)
        cases hi1 : idxZ [36, 123] s with
        | none =>
          rw [hi1] at hx c1
          have hR : R = some s := (Option.some.inj hx).symm
          subst hR
          have C1 : Hid (Calls Tryz.prog 84 #[.string (txt s), .string ⟨#[36, 123]⟩] wr fun e w' => e = .returned (.int .i64 (-1)) ∧ w' = wr) := c1
          clear hx c1 hi1
          go_wp2_with fail
          refine C1.out.mono ?_
          rintro e w1 ⟨rfl, hw1⟩
          obtain rfl := hw1.symm
          go_wp2
          go_ret2
          exact ⟨rfl, HO.out, HB.out, HK.out⟩
        | some i =>
          rw [hi1] at hx c1
          simp only at hx
          have C1 : Hid (Calls Tryz.prog 84 #[.string (txt s), .string ⟨#[36, 123]⟩] wr fun e w' => e = .returned (.int .i64 (i : Int)) ∧ w' = wr) := c1
          obtain ⟨hi2, _⟩ := idxZ_some s [36, 123] i hi1
          have hi3 : i + 2 ≤ s.length := hi2
          clear c1 hi1 hi2
          obtain ⟨S2, hS2⟩ : ∃ S2, s.drop (i + 2) = S2 := ⟨_, rfl⟩
          have h2l : S2.length = s.length - (i + 2) := by rw [← hS2, List.length_drop]
          have hsf : ∀ W, (Instr.slice 9 (.string (txt s)) (some (.int .i64 ((i : Int) + 2))) none none).run Tryz.prog W = .ok (.string (txt S2)) W := fun W => by rw [← hS2]; exact slice_from s (i + 2) _ (by omega) hi3 W
          rw [hS2] at hx
          have c2 := idx_any S2 [125] wr (by omega) (by decide)
          have hne1 : ((i : Int) == -1) = false := by simp
          cases hk1 : idxZ [125] S2 with
          | none =>
            rw [hk1] at hx c2
            have hR : R = none := (Option.some.inj hx).symm
            subst hR
            have C2 : Hid (Calls Tryz.prog 84 #[.string (txt S2), .string ⟨#[125]⟩] wr fun e w' => e = .returned (.int .i64 (-1)) ∧ w' = wr) := c2
            clear hx c2 hk1 h2l
            go_wp2_with fail
            refine C1.out.mono ?_
            rintro e w1 ⟨rfl, hw1⟩
            obtain rfl := hw1.symm
            go_wp2_with fail
            refine C2.out.mono ?_
            rintro e w1 ⟨rfl, hw1⟩
            obtain rfl := hw1.symm
            go_wp2_with fail
            refine (errNew _ wr).mono ?_
            rintro e w1 ⟨rfl, rfl⟩
            have HO2 := Lib.hid (HO.out.alloc (.cells #[.string ⟨#[109, 97, 108, 102, 111, 114, 109, 101, 100, 32, 101, 120, 112, 114, 101, 115, 115, 105, 111, 110]⟩] 163))
            have HB2 := Lib.hid (HB.out.alloc (by omega) (.cells #[.string ⟨#[109, 97, 108, 102, 111, 114, 109, 101, 100, 32, 101, 120, 112, 114, 101, 115, 115, 105, 111, 110]⟩] 163))
            go_wp2
            go_ret2
            exact ⟨⟨_, rfl⟩, HO2.out, HB2.out, fun r hr hne => (al_old _ _ _ (by omega)).trans (HK.out r hr hne)⟩
          | some k =>
            rw [hk1] at hx c2
            simp only at hx
            have C2 : Hid (Calls Tryz.prog 84 #[.string (txt S2), .string ⟨#[125]⟩] wr fun e w' => e = .returned (.int .i64 (k : Int)) ∧ w' = wr) := c2
            obtain ⟨hk2, _⟩ := idxZ_some S2 [125] k hk1
            have hk3 : k + 1 ≤ S2.length := hk2
            have hne2 : ((k : Int) == -1) = false := by simp
            obtain ⟨key, hkey⟩ : ∃ key, S2.take k = key := ⟨_, rfl⟩
            have hsm : ∀ W, (Instr.slice 9 (.string (txt s)) (some (.int .i64 ((i : Int) + 2))) (some (.int .i64 ((i : Int) + 2 + (k : Int)))) none).run Tryz.prog W = .ok (.string (txt key)) W := fun W => by
              rw [← hkey, ← hS2]
              exact slice_mid s (i + 2) k _ _ (by omega) (by omega) (by omega) W
            have hik : i + 2 + k + 1 ≤ s.length := by omega
            rw [hkey] at hx
            clear c2 hk1 hk2 hkey
            go_wp2_with fail
            refine C1.out.mono ?_
            rintro e w1 ⟨rfl, hw1⟩
            obtain rfl := hw1.symm
            go_wp2_with fail
            refine C2.out.mono ?_
            rintro e w1 ⟨rfl, hw1⟩
            obtain rfl := hw1.symm
            have HX := Lib.hid hx
            have hml := HM.out.lt
            clear hx C1 C2
            go_wp2
            rename World => v9
            go_loopg [18, 59] (ks.length + 1) (fun gk v18 v59 wr => ∃ j : Nat, v59 = .int .i64 j ∧ j ≤ ks.length ∧ ks.length - j < gk ∧ Hid (∀ x ∈ ks.take j, x ≠ key) ∧ Hid (wr = v9))
            case atStart => exact ⟨0, rfl, by omega, by omega, (fun x hx => by simp at hx), rfl⟩
            case round =>
              obtain ⟨j, rfl, hj, hg, HNE, hwr⟩ := hrel
              obtain rfl := hwr.out.symm
              by_cases hlt : j < ks.length
              · obtain ⟨gk, rfl⟩ : ∃ m, gk = m + 1 := ⟨gk - 1, by omega⟩
                have hp := List.getElem?_eq_getElem hlt
                have htk := List.take_succ_eq_append_getElem hlt
                generalize ks[j] = x at hp htk
                have hcell : ∃ g, ao = some ⟨g, 0, none⟩ ∧ v9.cell? ⟨g, j, none⟩ = some (.string (txt x)) := by
                  rcases HO.out.2 with ⟨e, h0⟩ | ⟨g, cap3, cur, e, _⟩
                  · omega
                  · have hoa : ao = some ⟨g, 0, none⟩ := by cases e; rfl
                    have hc := World.ownsRow.cells HO.out (by rw [e]; rfl) j (.string (txt x)) (by simp [strsV, hp])
                    rw [add0] at hc
                    exact ⟨g, hoa, hc⟩
                obtain ⟨gg, rfl, hc⟩ := hcell
                have HMEM : Hid (x ∈ ks) := List.mem_of_getElem? hp
                have HTK := Lib.hid htk
                clear hp htk
                by_cases hkx : key = x
                · subst hkx
                  have hR : R = none := by
                    have := HX.out
                    rw [if_pos HMEM.out] at this
                    exact (Option.some.inj this).symm
                  subst hR
                  have hee : ((txt key).toList == (txt key).toList) = true := by simp
                  go_wp2_with fail
                  refine (errNew _ v9).mono ?_
                  rintro e w1 ⟨rfl, rfl⟩
                  have HO2 := Lib.hid (HO.out.alloc (.cells #[.string ⟨#[99, 105, 114, 99, 117, 108, 97, 114, 32, 114, 101, 102, 101, 114, 101, 110, 99, 101]⟩] 163))
                  have HB2 := Lib.hid (HB.out.alloc (by omega) (.cells #[.string ⟨#[99, 105, 114, 99, 117, 108, 97, 114, 32, 114, 101, 102, 101, 114, 101, 110, 99, 101]⟩] 163))
                  go_wp2
                  go_ret2
                  exact ⟨⟨_, rfl⟩, HO2.out, HB2.out, fun r hr hne => (al_old _ _ _ (by omega)).trans (HK.out r hr hne)⟩
                · have hee : ((txt key).toList == (txt x).toList) = false := by rw [txt_toList, txt_toList]; exact beq_eq_false_iff_ne.2 hkx
                  have HKX := Lib.hid hkx
                  clear hkx
                  go_wp2
                  go_roundg gk
                  case rel =>
                    refine ⟨j + 1, by go_num, by omega, by omega, ?_, rfl⟩
                    show ∀ _ _, _
                    intro y hy
                    rw [HTK.out] at hy
                    rcases List.mem_append.1 hy with hy | hy
                    · exact HNE.out y hy
                    · simp at hy; subst hy; exact fun e => HKX.out e.symm
                  case measure => omega
              · have hnk : ¬ key ∈ ks := by
                  intro hmem
                  have := HNE.out key (by rw [List.take_of_length_le (by omega)]; exact hmem)
                  exact this rfl
                have hx := HX.out
                rw [if_neg hnk] at hx
                have hlk := valOf_look (P := Tryz.prog) (w := v9) m kv key 60 9 9 Tryz.underlying60 Tryz.underlying9 (fun _ => by kernel_rfl) HM.out HNK.out
                obtain ⟨VK, hVK⟩ : ∃ v, valOf kv key = v := ⟨_, rfl⟩
                rw [hVK] at hlk hx
                clear HNE HX hnk hVK
                cases hE : exD kv N d (ks ++ [key]) VK with
                | none => rw [hE] at hx; cases hx
                | some R2 =>
                rw [hE] at hx
                have HE := Lib.hid hE
                have HX2 := Lib.hid hx
                clear hE hx
                go_wp2_with (at_builtin; refine wpList_app2 rfl _ _ 34 9 rfl i0 (.string ⟨#[]⟩) 16 Tryz.underlying34 hi hz0 hz1 hz2 rfl B _ ks.length _ rfl HO.out (.string (txt key)) rfl _ rfl rfl (by omega) (by omega) (by omega) ?_)
                intro ao2 cap2 w5 hown5 hb5 hk5 hmv5 hs5
                obtain ⟨arr, cl, hmb⟩ := HM.out.cells
                have hmo : (Value.slice ao ks.length cap).ownBlock ≠ some m := own_ne_map HO.out hmb
                have hmb5 : w5.heap[m]? = v9.heap[m]? := hk5 m hml hmo
                have HM5 : Hid (MB m (kvW (sV kv)) w5) := HM.out.of hmb5
                have hmo2 : (Value.slice ao2 (ks.length + 1) cap2).ownBlock ≠ some m := own_ne_map hown5 (hmb5.trans hmb)
                have HB5 := Lib.hid (HB.out.trans hb5)
                have hb5s : B ≤ w5.heap.size := by omega
                have HC : Hid (Calls Tryz.prog 72 #[.string (txt VK), .slice ao2 (ks.length + 1) cap2, .string ⟨#[36, 123]⟩, .string ⟨#[125]⟩, .map (some m)] w5 (ExpP B (.slice ao2 (ks.length + 1) cap2) (ks.length + 1) (ks ++ [key]) R2 w5)) := by
                  have e1 : (ks ++ [key]).length = ks.length + 1 := by simp
                  have e2 : strsV (ks ++ [key]) = strsV ks ++ [.string (txt key)] := by simp [strsV]
                  have := IH.out (ks ++ [key]) VK R2 (.slice ao2 (ks.length + 1) cap2) w5 HE.out HM5.out (by rw [e1, e2]; exact hown5) hb5s (by rw [e1]; omega)
                  rw [e1] at this
                  exact this
                have hgen : ∀ w6, ExpP B (.slice ao2 (ks.length + 1) cap2) (ks.length + 1) (ks ++ [key]) R2 w5 (.returned .nilIface) w6 → True := fun _ _ => trivial
                clear hgen
                have HF : Hid (∀ w6 : World, w6.ownsRow B 9 1 (.slice ao2 (ks.length + 1) cap2) (ks.length + 1) (strsV (ks ++ [key])) → Below B w5 w6 → (∀ r, r < w5.heap.size → (Value.slice ao2 (ks.length + 1) cap2).ownBlock ≠ some r → w6.heap[r]? = w5.heap[r]?) →
                    w6.ownsRow B 9 1 (.slice ao ks.length cap) ks.length (strsV ks) ∧ MB m (kvW (sV kv)) w6 ∧ Below B W w6 ∧ ∀ r, r < W.heap.size → (Value.slice ao ks.length cap).ownBlock ≠ some r → w6.heap[r]? = W.heap[r]?) := by
                  show ∀ _ _ _ _, _
                  intro w6 hown6 hb6 hk6
                  have e2 : strsV (ks ++ [key]) = strsV ks ++ [.string (txt key)] := by simp [strsV]
                  rw [e2] at hown6
                  have hm5l := HM5.out.lt
                  refine ⟨?_, HM5.out.of (hk6 m hm5l hmo2), HB5.out.trans hb6, fun r hr hne => ?_⟩
                  · rcases hmv5 with ⟨g, cap3, e3, e4⟩ | ⟨hfr, hsame⟩
                    · rw [e4] at hown6
                      rw [e3]
                      have h0 := HO.out
                      rw [e3] at h0
                      exact own_of_more h0 hown6
                    · refine owns_of HO.out fun g hg => ?_
                      have hgl := (HO.out.lt g hg).2
                      rw [hk6 g (by omega) (fun e => by have := hfr g e; omega), hsame g hgl]
                  · have hne2 : (Value.slice ao2 (ks.length + 1) cap2).ownBlock ≠ some r := by
                      rcases hmv5 with ⟨g, cap3, e3, e4⟩ | ⟨hfr, _⟩
                      · rw [e4]; rw [e3] at hne; exact hne
                      · intro e; have := hfr r e; omega
                    rw [hk6 r (by omega) hne2, hk5 r (by omega) hne]
                    exact HK.out r hr hne
                have HB50 : Hid (W.heap.size ≤ w5.heap.size) := by show _ ≤ _; omega
                clear hown5 hb5 hk5 hmv5 hmb hmo hmb5 hmo2 HO HM HB HK HM5 HB5 HE hlk hml IH
                go_wp2_with fail
                refine HC.out.mono ?_
                rintro e w6 ⟨he6, hown6, hb6, hk6⟩
                obtain ⟨hO6, hM6, hB6, hK6⟩ := HF.out w6 hown6 hb6 hk6
                have HO6 := Lib.hid hO6
                have HM6 := Lib.hid hM6
                have HB6 := Lib.hid hB6
                have HK6 := Lib.hid hK6
                clear hown6 hb6 hk6 hO6 hM6 hB6 hK6 HC HF
                cases R2 with
                | none =>
                  obtain ⟨a, rfl⟩ := he6
                  have hR : R = none := (Option.some.inj HX2.out).symm
                  subst hR
                  have hne := neq_err a w6
                  go_wp2
                  go_ret2
                  exact ⟨⟨_, rfl⟩, HO6.out, HB6.out, HK6.out⟩
                | some nv =>
                  have he7 : e = .returned (.tuple #[.string (txt nv), .nilIface]) := he6
                  subst he7
                  have hx := HX2.out
                  simp only at hx
                  by_cases hnl : 100000000000000000 < nv.length
                  · rw [if_pos hnl] at hx; cases hx
                  rw [if_neg hnl] at hx
                  have HX3 := Lib.hid hx
                  have hnv : nv.length ≤ 100000000000000000 := by omega
                  have hts2 := txt_size nv
                  have hne := neq_nil_iface w6
                  have hst : ∀ W, (Instr.slice 9 (.string (txt s)) none (some (.int .i64 (i : Int))) none).run Tryz.prog W = .ok (.string (txt (s.take i))) W := fun W => slice_to s i (by omega) W
                  have hse : ∀ W, (Instr.slice 9 (.string (txt s)) (some (.int .i64 ((i : Int) + 2 + (k : Int) + 1))) none none).run Tryz.prog W = .ok (.string (txt (s.drop (i + 2 + k + 1)))) W := fun W => slice_from s (i + 2 + k + 1) _ (by omega) (by omega) W
                  have z0 : (txt (s.take i)).size = i := by rw [txt_size, List.length_take]; omega
                  have z1 : (txt (s.take i) ++ txt nv).size = i + nv.length := by rw [txt_append, txt_size, List.length_append, List.length_take, Nat.min_eq_left (by omega)]
                  have z2 : (txt (s.drop (i + 2 + k + 1))).size = s.length - (i + 2 + k + 1) := by rw [txt_size, List.length_drop]
                  have HCAT : Hid (txt (s.take i) ++ txt nv ++ txt (s.drop (i + 2 + k + 1)) = txt (s.take i ++ nv ++ s.drop (i + 2 + k + 1))) := by show _ = _; rw [txt_append, txt_append]
                  clear hx hnl he6 HX2
                  go_wp2
                  go_region
                  go_wp2
                  go_roundg g1
                  case rel => exact ⟨_, congrArg Value.string HCAT.out, HX3.out, owns_of HO6.out fun _ _ => rfl, HM6.out.of rfl, HB6.out.drew, HK6.out⟩
                  case measure => omega
end Go.Proofs.YtdfhidnhkeapbaaGreatDoor
