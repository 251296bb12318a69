/- laws.listed without comments; laws.zzFits4, zzFits5. -/
import Derived.Test.YtmmnljepbnifnaaDoorGList
namespace Go.Proofs.YtmmnljepbnifnaaDoor
open Go.RowKit U8
open Go.Lib hiding intOf

def szP (ps : List PropA) : Nat := (ps.map fun p => p.k.length + p.r.length + 1).sum
theorem szP_snoc (ps : List PropA) (p : PropA) : szP (ps ++ [p]) = szP ps + (p.k.length + p.r.length + 1) := by simp [szP]
/-- Keys that are not empty and differ, no comments, not too much. -/
def LF (ps : List PropA) : Prop := (∀ p ∈ ps, p.c = [] ∧ p.k ≠ []) ∧ (ps.map PropA.k).Nodup ∧ szP ps ≤ 1500
def ListedPost (ps : List PropA) (w : World) (e : Ending) (w' : World) : Prop := ∃ q : Bool, e = .returned (.bool q) ∧ Below w.heap.size w w' ∧ (q = true → LF ps)
theorem ListedPost.no {ps : List PropA} {w w' : World} (hb : Below w.heap.size w w') {e : Ending} (he : e = .returned (.bool false)) : ListedPost ps w e w' := ⟨false, he, hb, fun h => by cases h⟩

set_option maxHeartbeats 12800000 in
set_option maxRecDepth 100000 in
theorem listed_bare (ps : List PropA) (v : Value) (w : World) (hP : Px w v ps) (hl : ps.length ≤ 2147483647) (hs : ∀ p ∈ ps, p.k.length ≤ 2147483647 ∧ p.r.length ≤ 2147483647 ∧ p.c.length ≤ 2147483647) (hT : Tabs w) :
    Calls Tryd.prog 8 #[v, .bool false] w (ListedPost ps w) := by
  obtain ⟨ao, cap, rfl, hcp, hx⟩ := hP
  have HX := Lib.hid hx
  have HSZ := Lib.hid hs
  have HT := Lib.hid hT
  clear hx hs hT
  go_enter Tryd.func8, Tryd.ntmps8
  go_wp2
  go_loopg [5, 6, 7, 9, 11, 12, 15] (ps.length + 1) (fun gk v5 v6 v7 v9 v11 v12 v15 wr => ∃ k n : Nat, v15 = .int .i64 k ∧ v5 = .int .i64 n ∧ k ≤ ps.length ∧ ps.length - k < gk ∧ n ≤ k * 4294967296 ∧ Hid (n = szP (ps.take k)) ∧ Hid (∀ p ∈ ps.take k, p.c = [] ∧ p.k ≠ []) ∧ Hid ((ps.take k).map PropA.k).Nodup ∧ Hid (Below w.heap.size w wr))
  case atStart => exact ⟨0, 0, rfl, rfl, by omega, by omega, by omega, rfl, fun p hp => by simp at hp, List.nodup_nil, Below.refl _ _⟩
  case round =>
    obtain ⟨k, n, rfl, rfl, hk, hg, hn, HN, HC, HD, HB⟩ := hrel
    have hbs := HB.out.size
    by_cases hlt : k < ps.length
    · obtain ⟨g1, rfl⟩ : ∃ m, gk = m + 1 := ⟨gk - 1, by omega⟩
      have hp := List.getElem?_eq_getElem hlt
      have htk := List.take_succ_eq_append_getElem hlt
      generalize ps[k] = p at hp htk
      obtain ⟨g, o, cv, rfl, h0, h1, h2, h3, h4⟩ := HX.out k p hp
      obtain ⟨hsk, hsr, hsc⟩ := HSZ.out p (List.mem_of_getElem? hp)
      have hlift : ∀ {q : Addr} {u : Value}, w.cell? q = some u → wr.cell? q = some u := fun {q u} h => (HB.out.cell (World.block_lt_of_cell? w _ h)).trans h
      have d0 := hlift h0
      have d1 := hlift h1
      have d2 := hlift h2
      have d3 := hlift h3
      obtain ⟨cao, ccap, rfl, _, hcx⟩ := h4
      have HCX := Lib.hid hcx
      obtain ⟨pk, pr, px, pc⟩ := p
      simp only at d0 d1 d2 d3 hsk hsr hsc HCX
      have HTK := Lib.hid htk
      have hzk := txt_size pk
      have hzr := txt_size pr
      have HWA := Lib.hid (HB.out.alloc hbs (.cells #[.string (txt pk), .string (txt pr), .string (txt px), .slice cao pc.length ccap] 27))
      have HLOC : Hid (∀ W, Below (wr.alloc (.cells #[.string (txt pk), .string (txt pr), .string (txt px), .slice cao pc.length ccap] 27)).heap.size (wr.alloc (.cells #[.string (txt pk), .string (txt pr), .string (txt px), .slice cao pc.length ccap] 27)) W → W.cell? ⟨wr.heap.size, 0, none⟩ = some (.string (txt pk)) ∧ W.cell? ⟨wr.heap.size, 1, none⟩ = some (.string (txt pr)) ∧ W.cell? ⟨wr.heap.size, 3, none⟩ = some (.slice cao pc.length ccap) ∧ Below w.heap.size w W ∧ Tabs W) := by
        show ∀ _, _
        intro W hW
        have hn := hW.block wr.heap.size (by simp)
        rw [heap_alloc_new] at hn
        have hbw := HWA.out.trans (hW.mono HWA.out.size)
        exact ⟨by simp [World.cell?, hn], by simp [World.cell?, hn], by simp [World.cell?, hn], hbw, HT.out.below hbw⟩
      have hra := Below.refl (wr.alloc (.cells #[.string (txt pk), .string (txt pr), .string (txt px), .slice cao pc.length ccap] 27)).heap.size (wr.alloc (.cells #[.string (txt pk), .string (txt pr), .string (txt px), .slice cao pc.length ccap] 27))
      have HRA := Lib.hid hra
      have HPJ : Hid (∀ j q, ps[j]? = some q → ∃ x3 x4, ∀ W, Below w.heap.size w W → W.cell? ⟨g, o + j * 4, none⟩ = some (.string (txt q.k)) ∧ W.cell? ⟨g, o + j * 4 + 1, none⟩ = some (.string (txt q.r)) ∧ W.cell? ⟨g, o + j * 4 + 2, none⟩ = some (.string (txt q.x)) ∧ W.cell? ⟨g, o + j * 4 + 3, none⟩ = some (.slice x3 q.c.length x4)) := by
        show ∀ _ _, _
        intro j q hq
        obtain ⟨g2, o2, cv2, e2, y0, y1, y2, y3, y4⟩ := HX.out j q hq
        cases e2
        obtain ⟨a2, c2, rfl, _, _⟩ := y4
        refine ⟨a2, c2, fun W hW => ?_⟩
        have lf : ∀ {a : Addr} {u : Value}, w.cell? a = some u → W.cell? a = some u := fun {a u} h => (hW.cell (World.block_lt_of_cell? w _ h)).trans h
        exact ⟨lf y0, lf y1, lf y2, lf y3⟩
      clear h0 h1 h2 h3 hlift hcx hp htk hra
      by_cases hk0 : pk = []
      · have he : ((txt pk).toList == ([] : List UInt8)) = true := by rw [hk0, txt_toList]; rfl
        clear hk0
        go_wp2
        go_ret
        exact ListedPost.no HWA.out rfl
      have he : ((txt pk).toList == ([] : List UInt8)) = false := by rw [txt_toList]; exact beq_eq_false_iff_ne.2 hk0
      have HK0 := Lib.hid hk0
      clear hk0
      go_wp2_with fail
      refine (valid_any (txt pk) _ (by omega) (HLOC.out _ HRA.out).2.2.2.2).mono ?_
      rintro e w1 ⟨rfl, hb1⟩
      have HR1 := Lib.hid (HRA.out.trans (hb1.mono HRA.out.size))
      obtain ⟨c0, c1, c3, hbw, htw⟩ := HLOC.out w1 HR1.out
      have HBW1 := Lib.hid hbw
      have HT1 := Lib.hid htw
      clear hb1 hbw htw
      generalize okB (txt pk) = q1
      cases q1 with
      | false =>
        go_wp2
        go_ret
        exact ListedPost.no HBW1.out rfl
      | true =>
      go_wp2_with fail
      refine (valid_any (txt pr) _ (by omega) HT1.out).mono ?_
      rintro e w2 ⟨rfl, hb2⟩
      have HR2 := Lib.hid (HR1.out.trans (hb2.mono HR1.out.size))
      clear c0 c1 c3
      obtain ⟨c0, c1, c3, hbw, htw⟩ := HLOC.out w2 HR2.out
      have HBW2 := Lib.hid hbw
      clear hb2 hbw htw
      generalize okB (txt pr) = q2
      cases q2 with
      | false =>
        go_wp2
        go_ret
        exact ListedPost.no HBW2.out rfl
      | true =>
      go_wp2_with fail
      refine (small_some pk _).mono ?_
      rintro e w3 ⟨q3, rfl, hb3⟩
      have HR3 := Lib.hid (HR2.out.trans (hb3.mono HR2.out.size))
      clear c0 c1 c3
      obtain ⟨c0, c1, c3, hbw, htw⟩ := HLOC.out w3 HR3.out
      have HBW3 := Lib.hid hbw
      clear hb3 hbw htw
      cases q3 with
      | false =>
        go_wp2
        go_ret
        exact ListedPost.no HBW3.out rfl
      | true =>
      go_wp2_with fail
      refine (small_some pr _).mono ?_
      rintro e w4 ⟨q4, rfl, hb4⟩
      have HR4 := Lib.hid (HR3.out.trans (hb4.mono HR3.out.size))
      clear c0 c1 c3
      obtain ⟨c0, c1, c3, hbw, htw⟩ := HLOC.out w4 HR4.out
      have HBW4 := Lib.hid hbw
      clear hb4 hbw htw
      cases q4 with
      | false =>
        go_wp2
        go_ret
        exact ListedPost.no HBW4.out rfl
      | true =>
      clear c0 c1 c3 HWA
      have hkc : (k : Int) ≤ (cap : Int) := by omega
      have hkc2 : (k : Nat) ≤ cap := by omega
      obtain ⟨L, hL⟩ : ∃ L, wr.heap.size = L := ⟨_, rfl⟩
      rw [hL] at HLOC ⊢
      have HLQ := Lib.hid hL
      clear hL
      generalize wr.alloc (.cells #[.string (txt pk), .string (txt pr), .string (txt px), .slice cao pc.length ccap] 27) = WA at *
      go_wp2
      go_loopg [9, 51] (k + 1) (fun gk v9 v51 wq => ∃ j : Nat, v51 = .int .i64 j ∧ j ≤ k ∧ k - j < gk ∧ Hid (∀ i q, i < j → ps[i]? = some q → q.k ≠ pk) ∧ Hid (Below WA.heap.size WA wq))
      case atStart => exact ⟨0, rfl, by omega, by omega, fun i q h => absurd h (by omega), HR4.out⟩
      case round =>
        obtain ⟨j, rfl, hj, hgj, HF, HQ⟩ := hrel
        obtain ⟨c0, c1, c3, hbw, htw⟩ := HLOC.out wr HQ.out
        have HBW := Lib.hid hbw
        clear htw
        by_cases hjk : j < k
        · obtain ⟨g2, rfl⟩ : ∃ m, gk = m + 1 := ⟨gk - 1, by omega⟩
          have hq := List.getElem?_eq_getElem (l := ps) (i := j) (by omega)
          generalize ps[j]'(by omega) = q at hq
          obtain ⟨x3, x4, hxx⟩ := HPJ.out j q hq
          obtain ⟨y0, y1, y2, y3⟩ := hxx wr HBW.out
          clear hxx
          have HQJ := Lib.hid hq
          have hsq := HBW.out.size
          have HBA := Lib.hid (HBW.out.alloc hsq (.cells #[.string (txt q.k), .string (txt q.r), .string (txt q.x), .slice x3 q.c.length x4] 27))
          have HQA := Lib.hid (HQ.out.alloc HQ.out.size (.cells #[.string (txt q.k), .string (txt q.r), .string (txt q.x), .slice x3 q.c.length x4] 27))
          obtain ⟨e0, _, _, _, _⟩ := HLOC.out _ HQA.out
          clear hq hbw
          by_cases hkk : q.k = pk
          · have hee : ((txt q.k).toList == (txt pk).toList) = true := by rw [hkk]; simp
            clear hkk
            go_wp2
            go_ret
            exact ListedPost.no HBA.out rfl
          · have hee : ((txt q.k).toList == (txt pk).toList) = false := by rw [txt_toList, txt_toList]; exact beq_eq_false_iff_ne.2 hkk
            have HF2 : Hid (∀ i q, i < j + 1 → ps[i]? = some q → q.k ≠ pk) := by
              show ∀ _ _, _
              intro i q' hi hq'
              by_cases h : i = j
              · subst h
                have := HQJ.out
                rw [this] at hq'
                cases hq'
                exact hkk
              · exact HF.out i q' (by omega) hq'
            clear hkk
            go_wp2
            go_roundg g2
            case rel => exact ⟨j + 1, by go_num, by omega, by omega, HF2.out, HQA.out⟩
            case measure => omega
        · have HF2 : Hid (∀ i q, i < k → ps[i]? = some q → q.k ≠ pk) := fun i q hi => HF.out i q (by omega)
          clear hbw HF
          go_wp2
          rename World => v8
          go_loopg [5, 64] 2 (fun gk v5 v64 wq2 => v5 = .int .i64 n ∧ v64 = .int .i64 0 ∧ wq2 = v8)
          case atStart => exact ⟨rfl, rfl, rfl⟩
          case round =>
            obtain ⟨rfl, rfl, hwq⟩ := hrel
            obtain rfl := hwq.symm
            by_cases hpc : pc = []
            · subst hpc
              have hz : ([] : List (List UInt8)).length = 0 := rfl
              have HN2 : Hid (n + (pk.length + pr.length + 1) = szP (ps.take (k + 1))) := by show _ = _; rw [HTK.out, szP_snoc, HN.out]
              have HC2 : Hid (∀ p ∈ ps.take (k + 1), p.c = [] ∧ p.k ≠ []) := by
                show ∀ _, _
                intro p hp
                rw [HTK.out] at hp
                rcases List.mem_append.1 hp with hp | hp
                · exact HC.out p hp
                · simp at hp; rw [hp]; exact ⟨rfl, HK0.out⟩
              have HD2 : Hid ((ps.take (k + 1)).map PropA.k).Nodup := by
                show List.Nodup _
                rw [HTK.out, List.map_append, List.nodup_append]
                refine ⟨HD.out, by simp, ?_⟩
                intro a ha b hb
                simp at hb
                subst hb
                obtain ⟨y, hy, rfl⟩ := List.mem_map.1 ha
                obtain ⟨i, hi, e⟩ := List.mem_iff_getElem.1 hy
                rw [List.length_take] at hi
                refine HF2.out i y (by omega) ?_
                rw [← e, List.getElem_take]
                exact List.getElem?_eq_getElem (by omega)
              have hnn : n + pk.length + pr.length + 1 ≤ 9223372036854775807 := by omega
              clear HTK HN HC HD
              go_wp2
              go_roundg g1
              case rel => exact ⟨k + 1, n + (pk.length + pr.length + 1), by go_num, by go_num, by omega, by omega, by omega, HN2.out, HC2.out, HD2.out, HBW.out⟩
              case measure => omega
            · have hpl : (0 : Int) < (pc.length : Int) := by have := List.length_pos_iff.2 hpc; omega
              match pc, hpc with
              | x :: pc, _ =>
              obtain ⟨cg, co, rfl, hcc⟩ := HCX.out 0 x rfl
              rw [Nat.add_zero] at hcc
              have cc := (HBW.out.cell (World.block_lt_of_cell? w _ hcc)).trans hcc
              have hpx : (x :: pc).length = pc.length + 1 := rfl
              clear hcc
              go_wp2
              go_ret
              exact ListedPost.no HBW.out rfl
    · have hk2 : k = ps.length := by omega
      have HF : Hid (∀ q, q = decide ((n : Int) ≤ 1500) → q = true → LF ps) := by
        show ∀ _, _
        intro q hq hqt
        rw [hq, decide_eq_true_eq] at hqt
        have h1 := HN.out
        have h2 := HC.out
        have h3 := HD.out
        rw [hk2, List.take_length] at h1 h2 h3
        exact ⟨h2, h3, by omega⟩
      clear hk2
      go_wp2
      go_ret
      exact ⟨_, rfl, HB.out, HF.out _ rfl⟩

end Go.Proofs.YtmmnljepbnifnaaDoor
