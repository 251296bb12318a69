/- The law FnWordsBare: words without anything special are read as they are, whatever blanks and tabs stand around them. -/
import Derived.Test.YthekblmkcfkboaaDoorWKeep
import Derived.Test.YthekblmkcfkboaaDoorWLineP
namespace Go.Proofs.YthekblmkcfkboaaDoor
open Go.RowKit U8
open Go.Lib hiding intOf

/-- A slice of bytes. -/
def Bx (w : World) (v : Value) (l : List UInt8) : Prop := ∃ ao cap, v = .slice ao l.length cap ∧ ∀ (j : Nat) (b : UInt8), l[j]? = some b → ∃ g o, ao = some ⟨g, o, none⟩ ∧ w.cell? ⟨g, o + j, none⟩ = some (.int .u8 b.toNat)
theorem blankA_len (bs : List UInt8) (i : Nat) : (blankA bs i).length ≤ 3 := by
  unfold blankA
  split
  · unfold blankB; rw [List.length_map, List.length_range]; omega
  · simp
theorem wordA_len (bs : List UInt8) (i : Nat) (w : List UInt8) : (wordA bs i w).length ≤ 4 + w.length := by
  have := blankA_len bs i
  unfold wordA
  rw [List.length_append, List.length_append]
  split <;> simp <;> omega
theorem lineA_len (bs : List UInt8) : ∀ (l : List (List UInt8)) (i : Nat), (lineA bs i l).length ≤ 4 * l.length + szs l
  | [], _ => by simp [lineA]
  | w :: l, i => by
    have h1 := wordA_len bs i w
    have h2 := lineA_len bs l (i + 1)
    show (wordA bs i w ++ lineA bs (i + 1) l).length ≤ _
    rw [List.length_append, szs_cons, List.length_cons]
    omega
theorem blank_text (s : List UInt8) (m : Nat) (c : UInt8) (hc : (if m % 2 = 0 then (32 : UInt8) else 9) = c) : txt s ++ txt [c] = txt (s ++ [if m % 2 = 0 then 32 else 9]) := by rw [txt_append, hc]
set_option maxHeartbeats 6400000 in
theorem law_wordsBare (l : List (List UInt8)) (v : Value) (bs : List UInt8) (vb : Value) (w : World) (hT : Tx w v l) (hm : l.length ≤ 9223372036854775807) (hx2 : ∀ x ∈ l, x.length ≤ 9223372036854775807) (hB : Bx w vb bs) (hbm : bs.length ≤ 9223372036854775807) (hE : Er w) :
    Calls Tryd.prog 3 #[v, vb] w fun e w' => e = .returned (.bool true) ∧ Below w.heap.size w w' := by
  have hbr := Below.refl w.heap.size w
  have CF := Lib.hid (fits_any l v w hT hm hx2)
  obtain ⟨bo, bcap, rfl, hbc⟩ := hB
  have HBC := Lib.hid hbc
  clear hbc
  have HT := Lib.hid hT
  obtain ⟨ao, cap0, hv, hcells⟩ := hT
  have HX := Lib.hid hcells
  subst hv
  clear hcells
  cases hf : fitsB l with
  | false =>
    rw [hf] at CF
    clear hf
    go_enter Tryd.func3, Tryd.ntmps3
    go_wp2_with fail
    refine CF.out.mono ?_
    rintro e wx ⟨rfl, hwx⟩
    obtain rfl := hwx.symm
    go_wp2
    go_ret
    exact ⟨rfl, hbr⟩
  | true =>
  rw [hf] at CF
  have hsz := fits_sz hf
  clear hf
  by_cases hbl : (2147483647 : Int) < bs.length
  · go_enter Tryd.func3, Tryd.ntmps3
    go_wp2_with fail
    refine CF.out.mono ?_
    rintro e wx ⟨rfl, hwx⟩
    obtain rfl := hwx.symm
    go_wp2
    go_ret
    exact ⟨rfl, hbr⟩
  have CO := Lib.hid (one_any w hE)
  have CB := Lib.hid fun W (h : Below w.heap.size w W) => bare_any l _ W (HT.out.below h) hsz
  have HE := Lib.hid hE
  clear hE
  cases hb : bareB l with
  | false =>
    rw [hb] at CB
    clear hb
    go_enter Tryd.func3, Tryd.ntmps3
    go_wp2_with fail
    refine CF.out.mono ?_
    rintro e wx ⟨rfl, hwx⟩
    obtain rfl := hwx.symm
    go_wp2_with fail
    refine CO.out.mono ?_
    rintro e w1 ⟨rfl, hw1⟩
    go_wp2_with fail
    refine (CB.out w1 hw1).mono ?_
    rintro e w2 ⟨rfl, hb2⟩
    have HW2 := Lib.hid (below_own hb2 hw1)
    clear hb2 hw1
    go_wp2
    go_ret
    exact ⟨rfl, HW2.out⟩
  | true =>
  rw [hb] at CB
  obtain ⟨hbp, hbz⟩ := bare_parts hb
  by_cases hl0 : l = []
  · subst hl0
    clear hb
    go_enter Tryd.func3, Tryd.ntmps3
    go_wp2_with fail
    refine CF.out.mono ?_
    rintro e wx ⟨rfl, hwx⟩
    obtain rfl := hwx.symm
    go_wp2_with fail
    refine CO.out.mono ?_
    rintro e w1 ⟨rfl, hw1⟩
    go_wp2_with fail
    refine (CB.out w1 hw1).mono ?_
    rintro e w2 ⟨rfl, hb2⟩
    have HW2 := Lib.hid (below_own hb2 hw1)
    clear hb2 hw1
    go_wp2
    go_ret
    exact ⟨rfl, HW2.out⟩
  have hll : (l.length : Int) ≠ 0 := by
    intro h
    exact hl0 (List.length_eq_zero_iff.1 (by omega))
  have hll2 : ((l.length : Int) == 0) = false := by simpa using hll
  have hrun := line_run bs l hl0 hbp
  have HRun := Lib.hid hrun
  clear hb hbp hl0 hll hrun
  by_cases hb1000 : (1000 : Int) < bs.length
  · go_enter Tryd.func3, Tryd.ntmps3
    go_wp2_with fail
    refine CF.out.mono ?_
    rintro e wx ⟨rfl, hwx⟩
    obtain rfl := hwx.symm
    go_wp2_with fail
    refine CO.out.mono ?_
    rintro e w1 ⟨rfl, hw1⟩
    go_wp2_with fail
    refine (CB.out w1 hw1).mono ?_
    rintro e w2 ⟨rfl, hb2⟩
    have HW2 := Lib.hid (below_own hb2 hw1)
    clear hb2 hw1
    go_wp2
    go_ret
    exact ⟨rfl, HW2.out⟩
  go_enter Tryd.func3, Tryd.ntmps3
  go_wp2_with fail
  refine CF.out.mono ?_
  rintro e wx ⟨rfl, hwx⟩
  obtain rfl := hwx.symm
  go_wp2_with fail
  refine CO.out.mono ?_
  rintro e w1 ⟨rfl, hw1⟩
  go_wp2_with fail
  refine (CB.out w1 hw1).mono ?_
  rintro e w2 ⟨rfl, hb2⟩
  have HW2 := Lib.hid (below_own hb2 hw1)
  clear hb2 hw1
  go_wp2_with fail
  go_loopg [5, 6, 7, 8, 37] (l.length + 1) (fun gk v5 v6 v7 v8 v37 wr => ∃ (k : Nat) (s : List UInt8), v37 = .int .i64 k ∧ v5 = .string (txt s) ∧ k ≤ l.length ∧ l.length - k < gk ∧ Hid (s = lineA bs 0 (l.take k)) ∧ Hid (Below w.heap.size w wr))
  case atStart => exact ⟨0, [], rfl, rfl, by omega, by omega, rfl, HW2.out⟩
  case round =>
    obtain ⟨k, s, rfl, rfl, hk, hg, HS, HB⟩ := hrel
    have hsl : s.length ≤ 5000 := by
      have h1 := lineA_len bs (l.take k) 0
      have h2 := szs_take l k
      have h3 : (l.take k).length ≤ l.length := by rw [List.length_take]; omega
      rw [← HS.out] at h1
      omega
    have hss := txt_size s
    by_cases hlt : k < l.length
    · obtain ⟨g1, rfl⟩ : ∃ m, gk = m + 1 := ⟨gk - 1, by omega⟩
      have hx := List.getElem?_eq_getElem hlt
      have htk := List.take_succ_eq_append_getElem hlt
      generalize l[k] = x at hx htk
      obtain ⟨g, o1, rfl, cx0⟩ := HX.out k x hx
      have cx : wr.cell? ⟨g, o1 + k, none⟩ = some (.string (txt x)) := (HB.out.cell (World.block_lt_of_cell? w _ cx0)).trans cx0
      have hxl := szs_le hx
      have hts := txt_size x
      have HN : Hid (lineA bs 0 (l.take (k + 1)) = s ++ wordA bs k x) := by
        show _ = _
        rw [htk, lineA_snoc, HS.out, List.length_take, Nat.min_eq_left (by omega), Nat.zero_add]
      clear hx htk cx0 HS
      by_cases hk0 : k = 0
      · subst hk0
        rw [Nat.add_zero] at cx
        obtain ⟨s1, hs1⟩ : ∃ s1, s = s1 := ⟨_, rfl⟩
        have HN2 : Hid (lineA bs 0 (l.take (0 + 1)) = s1 ++ (blankA bs 0 ++ x)) := by show _ = _; rw [HN.out, ← hs1]; unfold wordA; rw [if_pos rfl, List.nil_append]
        subst hs1
        clear HN
        by_cases hkb : 0 < bs.length
        · have hb := List.getElem?_eq_getElem hkb
          generalize bs[0] = b at hb
          have hba : blankA bs 0 = blankB b (b.toNat % 4) := by unfold blankA; rw [hb]
          obtain ⟨gb, ob, rfl, cb⟩ := HBC.out 0 b hb
          have hb8 := b.toNat_lt
          have htm : (b.toNat : Int).tmod 4 = ((b.toNat % 4 : Nat) : Int) := by rw [Int.tmod_eq_emod_of_nonneg (by omega)]; omega
          have htd : (b.toNat : Int).tdiv 4 = ((b.toNat / 4 : Nat) : Int) := by rw [Int.tdiv_eq_ediv_of_nonneg (by omega)]; omega
          obtain ⟨m4, hm4⟩ : ∃ m4, b.toNat % 4 = m4 := ⟨_, rfl⟩
          obtain ⟨d4, hd4⟩ : ∃ d4, b.toNat / 4 = d4 := ⟨_, rfl⟩
          rw [hm4] at htm hba
          rw [hd4] at htd
          have hm4l : m4 ≤ 3 := by omega
          have hd4l : d4 ≤ 63 := by omega
          have HD4 := Lib.hid hd4
          have HCB := Lib.hid cb
          rw [hba] at HN2
          clear hb hba hm4 hd4 cb
          go_wp2_with fail
          rename World => v9
          go_loopg [5, 8] (m4 + 1) (fun gk v5 v8 wr => ∃ (j : Nat) (s2 : List UInt8), v8 = .int .i64 j ∧ v5 = .string (txt s2) ∧ j ≤ m4 ∧ m4 - j < gk ∧ Hid (s2 = s ++ blankB b j) ∧ Hid (Below v9.heap.size v9 wr))
          case atStart => exact ⟨0, s, rfl, rfl, by omega, by omega, (List.append_nil _).symm, Below.refl _ _⟩
          case round =>
            obtain ⟨j, s2, rfl, rfl, hj, hgj, HS2, HB2⟩ := hrel
            have hs2l : s2.length ≤ 5010 := by
              have h3 := congrArg List.length HS2.out
              rw [List.length_append] at h3
              unfold blankB at h3
              rw [List.length_map, List.length_range] at h3
              omega
            have hss2 := txt_size s2
            have HB3 := Lib.hid (HB.out.trans (HB2.out.mono HB.out.size))
            have cb2 : wr.cell? ⟨gb, ob + 0, none⟩ = some (.int .u8 b.toNat) := (HB3.out.cell (World.block_lt_of_cell? w _ HCB.out)).trans HCB.out
            rw [Nat.add_zero] at cb2
            by_cases hjm : j < m4
            · obtain ⟨g2, rfl⟩ : ∃ m, gk = m + 1 := ⟨gk - 1, by omega⟩
              have HB4 := Lib.hid (HB2.out.alloc HB2.out.size (.cells #[.string ⟨#[32]⟩, .string ⟨#[9]⟩] 9))
              have HS3 : Hid (s ++ blankB b (j + 1) = s2 ++ [if (d4 + j) % 2 = 0 then 32 else 9]) := by show _ = _; rw [blankB_succ, HD4.out, HS2.out, List.append_assoc]
              have cb3 : (wr.alloc (.cells #[.string ⟨#[32]⟩, .string ⟨#[9]⟩] 9)).cell? ⟨gb, ob, none⟩ = some (.int .u8 b.toNat) := (((Below.refl wr.heap.size wr).alloc (Nat.le_refl _) _).cell (World.block_lt_of_cell? wr _ cb2)).trans cb2
              clear HS2
              rcases (show (d4 + j) % 2 = 0 ∨ (d4 + j) % 2 = 1 by omega) with hpar | hpar
              · have hq : (((d4 : Nat) : Int) + (j : Int)).tmod 2 = 0 := by rw [Int.tmod_eq_emod_of_nonneg (by omega)]; omega
                have ht := Lib.hid (show txt s2 ++ ⟨#[32]⟩ = txt (s2 ++ [if (d4 + j) % 2 = 0 then 32 else 9]) from blank_text s2 (d4 + j) 32 (if_pos hpar))
                clear hpar
                go_wp2
                go_roundg g2
                case rel => exact ⟨j + 1, s2 ++ [if (d4 + j) % 2 = 0 then 32 else 9], by go_num, by rw [ht.out], by omega, by omega, HS3.out.symm, HB4.out⟩
                case measure => omega
              · have hq : (((d4 : Nat) : Int) + (j : Int)).tmod 2 = 1 := by rw [Int.tmod_eq_emod_of_nonneg (by omega)]; omega
                have ht := Lib.hid (show txt s2 ++ ⟨#[9]⟩ = txt (s2 ++ [if (d4 + j) % 2 = 0 then 32 else 9]) from blank_text s2 (d4 + j) 9 (if_neg (by omega)))
                clear hpar
                go_wp2
                go_roundg g2
                case rel => exact ⟨j + 1, s2 ++ [if (d4 + j) % 2 = 0 then 32 else 9], by go_num, by rw [ht.out], by omega, by omega, HS3.out.symm, HB4.out⟩
                case measure => omega
            · have hjm2 : j = m4 := by omega
              have HF : Hid (lineA bs 0 (l.take (0 + 1)) = s2 ++ x) := by show _ = _; rw [HN2.out, ← hjm2, ← List.append_assoc, ← HS2.out]
              have ht := Lib.hid (txt_append s2 x)
              subst hjm2
              clear HS2 hjm
              go_wp2
              go_roundg g1
              case rel => exact ⟨0 + 1, s2 ++ x, by go_num, by first | rfl | rw [ht.out], by omega, by omega, HF.out.symm, HB3.out⟩
              case measure => omega
        · have hba : blankA bs 0 = [] := by unfold blankA; rw [List.getElem?_eq_none (by omega)]
          rw [hba, List.nil_append] at HN2
          have hkb2 : (bs.length : Int) ≤ 0 := by omega
          clear hba hkb
          go_wp2_with fail
          rename World => v9
          go_loopg [5, 8] 1 (fun gk v5 v8 wr => v8 = .int .i64 0 ∧ v5 = .string (txt s) ∧ 0 < gk ∧ wr = v9)
          case atStart => exact ⟨rfl, rfl, by omega, rfl⟩
          case round =>
            obtain ⟨rfl, rfl, hgj, hwr⟩ := hrel
            obtain rfl := hwr.symm
            have ht := Lib.hid (txt_append s x)
            go_wp2
            go_roundg g1
            case rel => exact ⟨0 + 1, s ++ x, by go_num, by first | rfl | rw [ht.out], by omega, by omega, HN2.out.symm, HB.out⟩
            case measure => omega
      · have hk1 : (0 : Int) < k := by omega
        have happ := show txt s ++ ⟨#[32]⟩ = txt (s ++ [32]) by rw [show (⟨#[32]⟩ : ByteArray) = txt [32] from rfl, txt_append]
        obtain ⟨s1, hs1⟩ : ∃ s1, s ++ [32] = s1 := ⟨_, rfl⟩
        have HN2 : Hid (lineA bs 0 (l.take (k + 1)) = s1 ++ (blankA bs k ++ x)) := by show _ = _; rw [HN.out, ← hs1]; unfold wordA; rw [if_neg hk0, List.append_assoc]
        have hs1l : s1.length ≤ 5001 := by rw [← hs1]; simp; omega
        have hss1 := txt_size s1
        rw [hs1] at happ
        clear HN hs1 hk0
        by_cases hkb : k < bs.length
        · have hb := List.getElem?_eq_getElem hkb
          generalize bs[k] = b at hb
          have hba : blankA bs k = blankB b (b.toNat % 4) := by unfold blankA; rw [hb]
          obtain ⟨gb, ob, rfl, cb⟩ := HBC.out k b hb
          have hb8 := b.toNat_lt
          have htm : (b.toNat : Int).tmod 4 = ((b.toNat % 4 : Nat) : Int) := by rw [Int.tmod_eq_emod_of_nonneg (by omega)]; omega
          have htd : (b.toNat : Int).tdiv 4 = ((b.toNat / 4 : Nat) : Int) := by rw [Int.tdiv_eq_ediv_of_nonneg (by omega)]; omega
          obtain ⟨m4, hm4⟩ : ∃ m4, b.toNat % 4 = m4 := ⟨_, rfl⟩
          obtain ⟨d4, hd4⟩ : ∃ d4, b.toNat / 4 = d4 := ⟨_, rfl⟩
          rw [hm4] at htm hba
          rw [hd4] at htd
          have hm4l : m4 ≤ 3 := by omega
          have hd4l : d4 ≤ 63 := by omega
          have HD4 := Lib.hid hd4
          have HCB := Lib.hid cb
          rw [hba] at HN2
          clear hb hba hm4 hd4 cb
          go_wp2_with fail
          rename World => v9
          go_loopg [5, 8] (m4 + 1) (fun gk v5 v8 wr => ∃ (j : Nat) (s2 : List UInt8), v8 = .int .i64 j ∧ v5 = .string (txt s2) ∧ j ≤ m4 ∧ m4 - j < gk ∧ Hid (s2 = s1 ++ blankB b j) ∧ Hid (Below v9.heap.size v9 wr))
          case atStart => exact ⟨0, s1, rfl, rfl, by omega, by omega, (List.append_nil _).symm, Below.refl _ _⟩
          case round =>
            obtain ⟨j, s2, rfl, rfl, hj, hgj, HS2, HB2⟩ := hrel
            have hs2l : s2.length ≤ 5010 := by
              have h3 := congrArg List.length HS2.out
              rw [List.length_append] at h3
              unfold blankB at h3
              rw [List.length_map, List.length_range] at h3
              omega
            have hss2 := txt_size s2
            have HB3 := Lib.hid (HB.out.trans (HB2.out.mono HB.out.size))
            have cb2 : wr.cell? ⟨gb, ob + k, none⟩ = some (.int .u8 b.toNat) := (HB3.out.cell (World.block_lt_of_cell? w _ HCB.out)).trans HCB.out
            by_cases hjm : j < m4
            · obtain ⟨g2, rfl⟩ : ∃ m, gk = m + 1 := ⟨gk - 1, by omega⟩
              have HB4 := Lib.hid (HB2.out.alloc HB2.out.size (.cells #[.string ⟨#[32]⟩, .string ⟨#[9]⟩] 9))
              have HS3 : Hid (s1 ++ blankB b (j + 1) = s2 ++ [if (d4 + j) % 2 = 0 then 32 else 9]) := by show _ = _; rw [blankB_succ, HD4.out, HS2.out, List.append_assoc]
              have cb3 : (wr.alloc (.cells #[.string ⟨#[32]⟩, .string ⟨#[9]⟩] 9)).cell? ⟨gb, ob + k, none⟩ = some (.int .u8 b.toNat) := (((Below.refl wr.heap.size wr).alloc (Nat.le_refl _) _).cell (World.block_lt_of_cell? wr _ cb2)).trans cb2
              clear HS2
              rcases (show (d4 + j) % 2 = 0 ∨ (d4 + j) % 2 = 1 by omega) with hpar | hpar
              · have hq : (((d4 : Nat) : Int) + (j : Int)).tmod 2 = 0 := by rw [Int.tmod_eq_emod_of_nonneg (by omega)]; omega
                have ht := Lib.hid (show txt s2 ++ ⟨#[32]⟩ = txt (s2 ++ [if (d4 + j) % 2 = 0 then 32 else 9]) from blank_text s2 (d4 + j) 32 (if_pos hpar))
                clear hpar
                go_wp2
                go_roundg g2
                case rel => exact ⟨j + 1, s2 ++ [if (d4 + j) % 2 = 0 then 32 else 9], by go_num, by rw [ht.out], by omega, by omega, HS3.out.symm, HB4.out⟩
                case measure => omega
              · have hq : (((d4 : Nat) : Int) + (j : Int)).tmod 2 = 1 := by rw [Int.tmod_eq_emod_of_nonneg (by omega)]; omega
                have ht := Lib.hid (show txt s2 ++ ⟨#[9]⟩ = txt (s2 ++ [if (d4 + j) % 2 = 0 then 32 else 9]) from blank_text s2 (d4 + j) 9 (if_neg (by omega)))
                clear hpar
                go_wp2
                go_roundg g2
                case rel => exact ⟨j + 1, s2 ++ [if (d4 + j) % 2 = 0 then 32 else 9], by go_num, by rw [ht.out], by omega, by omega, HS3.out.symm, HB4.out⟩
                case measure => omega
            · have hjm2 : j = m4 := by omega
              have HF : Hid (lineA bs 0 (l.take (k + 1)) = s2 ++ x) := by show _ = _; rw [HN2.out, ← hjm2, ← List.append_assoc, ← HS2.out]
              have ht := Lib.hid (txt_append s2 x)
              subst hjm2
              clear HS2 hjm
              go_wp2
              go_roundg g1
              case rel => exact ⟨k + 1, s2 ++ x, by go_num, by first | rfl | rw [ht.out], by omega, by omega, HF.out.symm, HB3.out⟩
              case measure => omega
        · have hba : blankA bs k = [] := by unfold blankA; rw [List.getElem?_eq_none (by omega)]
          rw [hba, List.nil_append] at HN2
          have hkb2 : (bs.length : Int) ≤ k := by omega
          clear hba hkb
          go_wp2_with fail
          rename World => v9
          go_loopg [5, 8] 1 (fun gk v5 v8 wr => v8 = .int .i64 0 ∧ v5 = .string (txt s1) ∧ 0 < gk ∧ wr = v9)
          case atStart => exact ⟨rfl, rfl, by omega, rfl⟩
          case round =>
            obtain ⟨rfl, rfl, hgj, hwr⟩ := hrel
            obtain rfl := hwr.symm
            have ht := Lib.hid (txt_append s1 x)
            go_wp2
            go_roundg g1
            case rel => exact ⟨k + 1, s1 ++ x, by go_num, by first | rfl | rw [ht.out], by omega, by omega, HN2.out.symm, HB.out⟩
            case measure => omega
    · have htk : l.take k = l := List.take_of_length_le (by omega)
      have hs := HS.out
      rw [htk] at hs
      have hrun := HRun.out
      rw [← hs] at hrun
      have C4 := Lib.hid fun W (hE : Er W) => words_any false [] (fun _ h => by cases h) (by decide) s (by omega) W hE
      have HB2 := Lib.hid HB.out
      clear hs htk HS
      go_wp2_with fail
      refine (C4.out _ (HE.out.below HB2.out)).mono ?_
      rintro e w5 ⟨hb5, _, hS5⟩
      obtain ⟨ao5, cap5, he, hoz⟩ := hS5 _ _ hrun
      generalize Value.slice ao5 l.length cap5 = vz at he hoz
      subst he
      have hw5 := below_own hb5 HB2.out
      have HW5 := Lib.hid hw5
      have CQ := Lib.hid (eq_texts l l vz _ w5 (tx_own hoz) (HT.out.below hw5) (by omega) (by omega))
      clear hS5 hoz hb5 hw5 hrun
      go_wp2_with fail
      refine CQ.out.mono ?_
      rintro e w6 ⟨rfl, hb6⟩
      have HW6 := Lib.hid (below_own hb6 HW5.out)
      clear hb6
      go_wp2
      go_ret
      exact ⟨by simp, HW6.out⟩

end Go.Proofs.YthekblmkcfkboaaDoor
