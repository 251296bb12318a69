/- The law FnWordsDouble: words between double quotes are read as they are. -/
import Derived.Test.YthekblmkcfkboaaDoorWJoin
import Derived.Test.YthekblmkcfkboaaDoorWBareC
import Derived.Test.YthekblmkcfkboaaDoorWDblPlain
namespace Go.Proofs.YthekblmkcfkboaaDoor
open Go.RowKit U8
open Go.Lib hiding intOf

theorem escD_len (w : List UInt8) : (escD w).length ≤ 2 * w.length := by
  induction w with
  | nil => simp [escD]
  | cons b w ih =>
    have e : escD (b :: w) = (if b = 34 ∨ b = 92 then [92, b] else [b]) ++ escD w := by simp [escD]
    rw [e, List.length_append, List.length_cons]
    split <;> simp <;> omega
theorem quoteD_len (w : List UInt8) : (quoteD w).length ≤ 2 * w.length + 2 := by
  have := escD_len w
  unfold quoteD
  simp
  omega
theorem szs_quote (l : List (List UInt8)) : szs (l.map quoteD) ≤ 2 * szs l + 2 * l.length := by
  induction l with
  | nil => simp [szs]
  | cons x l ih =>
    have := quoteD_len x
    rw [List.map_cons, szs_cons, szs_cons, List.length_cons]
    omega
theorem escD_snoc (w : List UInt8) (b : UInt8) : escD (w ++ [b]) = escD w ++ (if b = 34 ∨ b = 92 then [92, b] else [b]) := by simp [escD]
theorem seen_all {l : List (List UInt8)} (h : seenB l = true) : (∀ x ∈ l, ∀ b ∈ x, 32 ≤ b.toNat ∧ b.toNat < 127) ∧ l.length + szs l ≤ 1000 := by
  unfold seenB at h
  rw [Bool.and_eq_true] at h
  refine ⟨fun x hx b hb => ?_, of_decide_eq_true h.2⟩
  have h1 := List.all_eq_true.1 (List.all_eq_true.1 h.1 x hx) b hb
  exact of_decide_eq_true h1
theorem okD_of {x : List UInt8} (h : ∀ b ∈ x, 32 ≤ b.toNat ∧ b.toNat < 127) (h36 : x.any (· == 36) = false) (h96 : x.any (· == 96) = false) : ∀ b ∈ x, okD b := by
  intro b hb
  have h1 := h b hb
  refine ⟨h1.1, h1.2, fun e => ?_, fun e => ?_⟩
  · have := List.any_eq_false.1 h36 b hb
    simp [show b = 36 from UInt8.toNat_inj.1 e] at this
  · have := List.any_eq_false.1 h96 b hb
    simp [show b = 96 from UInt8.toNat_inj.1 e] at this
theorem slice_one (x : List UInt8) (j : Nat) (b : UInt8) (hb : x[j]? = some b) (W : World) : (Instr.slice 9 (.string (txt x)) (some (.int .i64 j)) (some (.int .i64 (j + 1))) none).run Tryd.prog W = .ok (.string (txt [b])) W := by
  have hjl : j < x.length := (List.getElem?_eq_some_iff.1 hb).1
  have hts := txt_size x
  have hex : (txt x).extract j (j + 1) = txt [b] := by
    have hdj := List.drop_eq_getElem_cons hjl
    have e := (List.getElem?_eq_some_iff.1 hb).2
    rw [txt_extract, List.drop_take, hdj, e]
    simp
  have e2 : ((j : Int) + 1).toNat = j + 1 := by omega
  have e3 : ((j + 1 : Nat) : Int) = (j : Int) + 1 := by omega
  simp [Instr.slice, run_underlying Tryd.underlying9, Instr.sliceBounds, run_sliceBound, (by omega : (0 : Int) ≤ j), (by omega : (0 : Int) ≤ (j : Int) + 1), e2, hts, (by omega : (j : Int) + 1 ≤ (x.length : Int)), (by omega : (j : Int) ≤ (j : Int) + 1), hex]
theorem dbl_text (s : List UInt8) : txt s ++ ⟨#[34]⟩ = txt (s ++ [34]) := by
  rw [show (⟨#[34]⟩ : ByteArray) = txt [34] from rfl, txt_append]
theorem dbl_back (s : List UInt8) : txt s ++ ⟨#[92]⟩ = txt (s ++ [92]) := by
  rw [show (⟨#[92]⟩ : ByteArray) = txt [92] from rfl, txt_append]
set_option maxHeartbeats 3200000 in
theorem law_wordsDouble (l : List (List UInt8)) (v : Value) (w : World) (hT : Tx w v l) (hm : l.length ≤ 9223372036854775807) (hx2 : ∀ x ∈ l, x.length ≤ 9223372036854775807) (hE : Er w) :
    Calls Tryd.prog 5 #[v] w fun e w' => e = .returned (.bool true) ∧ Below w.heap.size w w' := by
  have hbr := Below.refl w.heap.size w
  have CF := Lib.hid (fits_any l v w hT hm hx2)
  cases hf : fitsB l with
  | false =>
    rw [hf] at CF
    obtain ⟨ao, cap, rfl, _⟩ := hT
    clear hf
    go_enter Tryd.func5, Tryd.ntmps5
    go_wp2_with fail
    refine CF.out.mono ?_
    rintro e wx ⟨rfl, hwx⟩
    obtain rfl := hwx.symm
    go_wp2
    go_ret
    exact ⟨rfl, hbr⟩
  | true =>
  rw [hf] at CF
  have hsz := fits_sz hf
  have CO := Lib.hid (one_any w hE)
  have CS := Lib.hid fun W (h : Below w.heap.size w W) => seen_any l v W (hT.below h) hsz
  have HE := Lib.hid hE
  have HT := Lib.hid hT
  clear hf hE
  obtain ⟨ao, cap0, hv, hcells⟩ := hT
  have HX := Lib.hid hcells
  subst hv
  clear hcells
  cases hb : seenB l with
  | false =>
    rw [hb] at CS
    clear hb
    go_enter Tryd.func5, Tryd.ntmps5
    go_wp2_with fail
    refine CF.out.mono ?_
    rintro e wx ⟨rfl, hwx⟩
    obtain rfl := hwx.symm
    go_wp2_with fail
    refine CO.out.mono ?_
    rintro e w1 ⟨rfl, hw1⟩
    go_wp2_with fail
    refine (CS.out w1 hw1).mono ?_
    rintro e wx ⟨rfl, hwx⟩
    obtain rfl := hwx.symm
    go_wp2
    go_ret
    exact ⟨rfl, hw1⟩
  | true =>
  rw [hb] at CS
  obtain ⟨hvis, hbz⟩ := seen_all hb
  by_cases hl0 : l = []
  · subst hl0
    clear hb
    go_enter Tryd.func5, Tryd.ntmps5
    go_wp2_with fail
    refine CF.out.mono ?_
    rintro e wx ⟨rfl, hwx⟩
    obtain rfl := hwx.symm
    go_wp2_with fail
    refine CO.out.mono ?_
    rintro e w1 ⟨rfl, hw1⟩
    go_wp2_with fail
    refine (CS.out w1 hw1).mono ?_
    rintro e wx ⟨rfl, hwx⟩
    obtain rfl := hwx.symm
    go_wp2
    go_ret
    exact ⟨rfl, hw1⟩
  have hll : (l.length : Int) ≠ 0 := by
    intro h
    exact hl0 (List.length_eq_zero_iff.1 (by omega))
  have hll2 : ((l.length : Int) == 0) = false := by simpa using hll
  have HVis := Lib.hid hvis
  have HL0 := Lib.hid hl0
  have hsq := szs_quote l
  clear hb hvis hl0 hll
  go_enter Tryd.func5, Tryd.ntmps5
  go_wp2_with fail
  refine CF.out.mono ?_
  rintro e wx ⟨rfl, hwx⟩
  obtain rfl := hwx.symm
  go_wp2_with fail
  refine CO.out.mono ?_
  rintro e w1 ⟨rfl, hw1⟩
  go_wp2_with fail
  refine (CS.out w1 hw1).mono ?_
  rintro e wx ⟨rfl, hwx⟩
  obtain rfl := hwx.symm
  have HW1 := Lib.hid hw1
  clear hw1
  go_wp2_with fail
  go_loopg [3, 5, 6, 7, 26] (l.length + 1) (fun gk v3 v5 v6 v7 v26 wr => ∃ k : Nat, v26 = .int .i64 k ∧ k ≤ l.length ∧ l.length - k < gk ∧ Hid (Below w.heap.size w wr) ∧ Hid (wr.ownsRow w.heap.size 9 1 v3 ((l.take k).map quoteD).length (strsV ((l.take k).map quoteD))) ∧ Hid (∀ x ∈ l.take k, ∀ b ∈ x, okD b))
  case atStart => exact ⟨0, rfl, by omega, by omega, HW1.out, World.ownsRow_nil _ _ _ _, fun x hx => by simp at hx⟩
  case round =>
    obtain ⟨k, rfl, hk, hg, HB, HO, HG⟩ := hrel
    by_cases hlt : k < l.length
    · obtain ⟨g1, rfl⟩ : ∃ m, gk = m + 1 := ⟨gk - 1, by omega⟩
      have hx := List.getElem?_eq_getElem hlt
      have htk := List.take_succ_eq_append_getElem hlt
      generalize l[k] = x at hx htk
      obtain ⟨g, o1, rfl, cx0⟩ := HX.out k x hx
      have cx : wr.cell? ⟨g, o1 + k, none⟩ = some (.string (txt x)) := (HB.out.cell (World.block_lt_of_cell? w _ cx0)).trans cx0
      have hxl := szs_le hx
      have hts := txt_size x
      have hxv := HVis.out x (List.mem_of_getElem? hx)
      have HTK := Lib.hid htk
      have CH1 := Lib.hid (has_any x 36 wr (by omega))
      have CH2 := Lib.hid (has_any x 96 wr (by omega))
      clear hx htk cx0
      cases h36 : x.any (· == 36) with
      | true =>
        rw [h36] at CH1
        clear h36 hxv
        go_wp2_with fail
        refine CH1.out.mono ?_
        rintro e wx ⟨rfl, hwx⟩
        obtain rfl := hwx.symm
        go_wp2
        go_ret
        exact ⟨rfl, HB.out⟩
      | false =>
      cases h96 : x.any (· == 96) with
      | true =>
        rw [h36] at CH1
        rw [h96] at CH2
        clear h36 h96 hxv
        go_wp2_with fail
        refine CH1.out.mono ?_
        rintro e wx ⟨rfl, hwx⟩
        obtain rfl := hwx.symm
        go_wp2_with fail
        refine CH2.out.mono ?_
        rintro e wx ⟨rfl, hwx⟩
        obtain rfl := hwx.symm
        go_wp2
        go_ret
        exact ⟨rfl, HB.out⟩
      | false =>
      have HOK := Lib.hid (okD_of hxv h36 h96)
      rw [h36] at CH1
      rw [h96] at CH2
      clear h36 h96 hxv
      go_wp2_with fail
      refine CH1.out.mono ?_
      rintro e wx ⟨rfl, hwx⟩
      obtain rfl := hwx.symm
      go_wp2_with fail
      refine CH2.out.mono ?_
      rintro e wx ⟨rfl, hwx⟩
      obtain rfl := hwx.symm
      by_cases hx0 : x = []
      · subst hx0
        have he : ((txt []).toList == ([] : List UInt8)) = true := by rw [txt_toList]; rfl
        go_wp2
        go_ret
        exact ⟨rfl, HB.out⟩
      have he : ((txt x).toList == ([] : List UInt8)) = false := by rw [txt_toList]; exact beq_eq_false_iff_ne.2 hx0
      clear hx0
      go_wp2_with fail
      rename World => v9
      go_loopg [6, 7] (x.length + 1) (fun gk v6 v7 wr => ∃ (j : Nat) (s : List UInt8), v7 = .int .i64 j ∧ v6 = .string (txt s) ∧ j ≤ x.length ∧ x.length - j < gk ∧ Hid (s = 34 :: escD (x.take j)) ∧ wr = v9)
      case atStart => exact ⟨0, [34], rfl, rfl, by omega, by omega, rfl, rfl⟩
      case round =>
        obtain ⟨j, s, rfl, rfl, hj, hgj, HS, hwr⟩ := hrel
        obtain rfl := hwr.symm
        have hsl : s.length ≤ 4000 := by
          have h1 := escD_len (x.take j)
          have h2 : (x.take j).length ≤ x.length := by rw [List.length_take]; omega
          have h3 := congrArg List.length HS.out
          rw [List.length_cons] at h3
          omega
        have hss := txt_size s
        by_cases hjl : j < x.length
        · obtain ⟨g2, rfl⟩ : ∃ m, gk = m + 1 := ⟨gk - 1, by omega⟩
          have hb := List.getElem?_eq_getElem hjl
          have htj := List.take_succ_eq_append_getElem hjl
          generalize x[j] = b at hb htj
          have hby := run_byte x j b hb v9
          have hb8 := b.toNat_lt
          have hex := fun W => slice_one x j b hb W
          have HS2 : Hid (34 :: escD (x.take (j + 1)) = s ++ (if b = 34 ∨ b = 92 then [92, b] else [b])) := by
            show _ = _
            rw [htj, escD_snoc, HS.out]; rfl
          have hb1 := txt_size [b]
          clear hb htj HS
          by_cases hbq : b = 34 ∨ b = 92
          · have HS3 : Hid (34 :: escD (x.take (j + 1)) = s ++ [92, b]) := by show _ = _; rw [HS2.out, if_pos hbq]
            have happ := Lib.hid (show txt s ++ ⟨#[92]⟩ ++ txt [b] = txt (s ++ [92, b]) by rw [dbl_back, txt_append, List.append_assoc]; rfl)
            clear HS2
            have hbi : (b.toNat : Int) = 34 ∨ ((b.toNat : Int) ≠ 34 ∧ (b.toNat : Int) = 92) := by rcases hbq with rfl | rfl; left; rfl; right; exact ⟨by decide, rfl⟩
            clear hbq
            rcases hbi with hbi | ⟨hbj, hbi⟩
            · rw [hbi] at hby
              go_wp2
              go_roundg g2
              case rel => exact ⟨j + 1, s ++ [92, b], by go_num, by first | rfl | rw [happ.out], by omega, by omega, HS3.out.symm, rfl⟩
              case measure => omega
            · rw [hbi] at hby
              go_wp2
              go_roundg g2
              case rel => exact ⟨j + 1, s ++ [92, b], by go_num, by first | rfl | rw [happ.out], by omega, by omega, HS3.out.symm, rfl⟩
              case measure => omega
          · have HS3 : Hid (34 :: escD (x.take (j + 1)) = s ++ [b]) := by show _ = _; rw [HS2.out, if_neg hbq]
            have happ := Lib.hid (show txt s ++ txt [b] = txt (s ++ [b]) by rw [txt_append])
            have h34 : ((b.toNat : Int) == 34) = false := by
              rw [beq_eq_false_iff_ne]; intro h; exact hbq (.inl (UInt8.toNat_inj.1 (by show b.toNat = 34; omega)))
            have h92 : ((b.toNat : Int) == 92) = false := by
              rw [beq_eq_false_iff_ne]; intro h; exact hbq (.inr (UInt8.toNat_inj.1 (by show b.toNat = 92; omega)))
            clear HS2 hbq
            go_wp2
            go_roundg g2
            case rel => exact ⟨j + 1, s ++ [b], by go_num, by first | rfl | rw [happ.out], by omega, by omega, HS3.out.symm, rfl⟩
            case measure => omega
        · have HQ : Hid (s ++ [34] = quoteD x) := by show _ = _; rw [HS.out, List.take_of_length_le (by omega)]; rfl
          have hq : txt s ++ ⟨#[34]⟩ = txt (quoteD x) := by rw [dbl_text, HQ.out]
          have HWA := Lib.hid (HB.out.alloc HB.out.size (.cells #[.string (txt (quoteD x))] 9))
          obtain ⟨q, hqe⟩ : ∃ q, (l.take k).map quoteD = q := ⟨_, rfl⟩
          have hoq := HO.out
          rw [hqe] at hoq
          have HQE := Lib.hid hqe
          have HOA := Lib.hid (World.ownsRow.alloc hoq (.cells #[.string (txt (quoteD x))] 9))
          have htl : q.length ≤ 1000 := by rw [← hqe, List.length_map, List.length_take]; omega
          clear HS hqe hoq
          go_wp2_with (at_builtin; refine append_texts (by rfl) _ _ rfl w.heap.size _ q [quoteD x] rfl HOA.out v9.heap.size 1 rfl (one_str v9 (txt (quoteD x))) (by simp only [List.length_singleton]; omega) HWA.out.size ?_)
          intro v4 w5 ho5 hg5
          have hb5 : Below w.heap.size w w5 := HWA.out.grown hg5 HWA.out.size (fun z hz => (World.ownsRow.lt HOA.out z hz).1)
          have e5 : q ++ [quoteD x] = (l.take (k + 1)).map quoteD := by rw [HTK.out, List.map_append, HQE.out]; rfl
          have ho6 : w5.ownsRow w.heap.size 9 1 v4 ((l.take (k + 1)).map quoteD).length (strsV ((l.take (k + 1)).map quoteD)) := by
            rw [← e5]
            first | exact ho5 | (rw [List.length_append]; show World.ownsRow _ _ _ _ _ _ (List.map _ _); rw [List.map_append]; exact ho5)
          have HO6 := Lib.hid ho6
          have HB5 := Lib.hid hb5
          have HG6 : Hid (∀ y ∈ l.take (k + 1), ∀ b ∈ y, okD b) := by
            intro y hy
            rw [HTK.out] at hy
            rcases List.mem_append.1 hy with hy | hy
            · exact HG.out y hy
            · rw [List.mem_singleton] at hy; subst hy; exact HOK.out
          clear ho5 hg5 hb5 e5 ho6 hq
          go_wp2
          go_roundg g1
          case rel => exact ⟨k + 1, by go_num, by omega, by omega, HB5.out, HO6.out, HG6.out⟩
          case measure => omega
    · have htk : l.take k = l := List.take_of_length_le (by omega)
      have ho := HO.out
      have hg2 := HG.out
      rw [htk] at ho hg2
      have hx3 := tx_own ho
      have hjl := joinA_len [32] (by simp) (l.map quoteD)
      rw [List.length_map] at hjl
      have hrun := dbl_line HL0.out hg2
      have CJ := Lib.hid (joined_any (l.map quoteD) [32] _ wr hx3 (by rw [List.length_map]; omega) (by simp))
      have C4 := Lib.hid fun W (hE : Er W) => words_any false [] (fun _ h => by cases h) (by decide) (joinA [32] (l.map quoteD)) (by omega) W hE
      have HB2 := Lib.hid HB.out
      clear ho hg2 hx3 htk HO HG
      go_wp2_with fail
      refine CJ.out.mono ?_
      rintro e wx ⟨rfl, hwx⟩
      obtain rfl := hwx.symm
      go_wp2_with fail
      refine (C4.out _ (HE.out.below HB2.out)).mono ?_
      rintro e w5 ⟨hb5, _, hS5⟩
      obtain ⟨ao5, cap5, he, hoz⟩ := hS5 _ _ hrun
      generalize Value.slice ao5 l.length cap5 = vz at he hoz
      subst he
      have hw5 := below_own hb5 HB2.out
      have HW5 := Lib.hid hw5
      have CQ := Lib.hid (eq_texts l l vz _ w5 (tx_own hoz) (HT.out.below hw5) (by omega) (by omega))
      clear hS5 hoz hb5 hw5 hrun
      go_wp2_with fail
      refine CQ.out.mono ?_
      rintro e w6 ⟨rfl, hb6⟩
      have HW6 := Lib.hid (below_own hb6 HW5.out)
      clear hb6
      go_wp2
      go_ret
      exact ⟨by simp, HW6.out⟩

end Go.Proofs.YthekblmkcfkboaaDoor
