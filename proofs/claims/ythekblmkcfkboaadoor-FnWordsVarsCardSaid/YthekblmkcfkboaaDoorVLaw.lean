/- The law FnWordsVars: a variable is the word that it has; a dollar sign between single quotes is one. -/
import Derived.Test.YthekblmkcfkboaaDoorVD
import Derived.Test.YthekblmkcfkboaaDoorWBareC
import Derived.Test.YthekblmkcfkboaaDoorWAsgL
namespace Go.Proofs.YthekblmkcfkboaaDoor
open Go.RowKit U8
open Go.Lib hiding intOf

set_option maxHeartbeats 1600000 in
theorem simple_big (x : List UInt8) (w : World) (hx : x.length ≤ 2147483647) : Calls Tryd.prog 19 #[.string (txt x)] w fun e w' => e = .returned (.bool (simpleB x)) ∧ w' = w := by
  obtain ⟨S, hS⟩ : ∃ S, simpleB x = S := ⟨_, rfl⟩
  have hS2 : S = (x.all simB && !x.isEmpty) := hS.symm
  rw [hS]
  have HS := Lib.hid hS2
  have hts := txt_size x
  have CL := Lib.hid fun c => letter_any c w
  clear hS hS2
  go_enter Tryd.func19, Tryd.ntmps19
  go_wp2
  go_loopg [3] (x.length + 1) (fun gk v3 wr => ∃ j : Nat, v3 = .int .i64 j ∧ j ≤ x.length ∧ x.length - j < gk ∧ Hid (S = ((x.drop j).all simB && !x.isEmpty)) ∧ wr = w)
  case atStart => exact ⟨0, rfl, by omega, by omega, HS.out, rfl⟩
  case round =>
    obtain ⟨j, rfl, hj, hg, HJ, hwr⟩ := hrel
    obtain rfl := hwr.symm
    by_cases hlt : j < x.length
    · obtain ⟨gk, rfl⟩ : ∃ m, gk = m + 1 := ⟨gk - 1, by omega⟩
      have hb := List.getElem?_eq_getElem hlt
      have hd := List.drop_eq_getElem_cons hlt
      generalize x[j] = c at hb hd
      have hby := run_byte x j c hb w
      have hc8 := c.toNat_lt
      have HJ2 : Hid (S = ((simB c && (x.drop (j + 1)).all simB) && !x.isEmpty)) := by show _ = _; rw [HJ.out, hd]; rfl
      clear hb hd HJ
      go_wp2_with fail
      refine (CL.out c).mono ?_
      rintro e wx ⟨rfl, hwx⟩
      obtain rfl := hwx.symm
      cases hlb : letterB c with
      | true =>
        have HF : Hid (S = ((x.drop (j + 1)).all simB && !x.isEmpty)) := by show _ = _; rw [HJ2.out]; unfold simB; rw [hlb]; rfl
        clear HJ2 hlb
        go_wp2
        go_roundg gk
        case rel => exact ⟨j + 1, by go_num, by omega, by omega, HF.out, rfl⟩
        case measure => omega
      | false =>
        by_cases h1 : (c.toNat : Int) < 48
        · have HF : Hid (S = false) := by show _ = _; rw [HJ2.out]; unfold simB; rw [hlb, decide_eq_false (by omega)]; rfl
          clear HJ2 hlb
          go_wp2
          go_ret
          exact ⟨by rw [HF.out]; rfl, rfl⟩
        by_cases h2 : (57 : Int) < c.toNat
        · have HF : Hid (S = false) := by show _ = _; rw [HJ2.out]; unfold simB; rw [hlb, decide_eq_false (by omega)]; rfl
          clear HJ2 hlb
          go_wp2
          go_ret
          exact ⟨by rw [HF.out]; rfl, rfl⟩
        have HF : Hid (S = ((x.drop (j + 1)).all simB && !x.isEmpty)) := by show _ = _; rw [HJ2.out]; unfold simB; rw [hlb, decide_eq_true (by omega)]; rfl
        clear HJ2 hlb
        go_wp2
        go_roundg gk
        case rel => exact ⟨j + 1, by go_num, by omega, by omega, HF.out, rfl⟩
        case measure => omega
    · have HF : Hid (S = !x.isEmpty) := by show _ = _; rw [HJ.out, List.drop_eq_nil_of_le (by omega)]; rfl
      clear HJ
      by_cases hx0 : x = []
      · subst hx0
        go_wp2
        go_ret
        exact ⟨by rw [HF.out]; rfl, rfl⟩
      · have HF2 : Hid (S = true) := by show _ = _; rw [HF.out]; cases x; exact absurd rfl hx0; rfl
        have hl0 : (0 : Int) < x.length := by have := List.length_pos_iff.2 hx0; omega
        clear HF hx0
        go_wp2
        go_ret
        exact ⟨by rw [HF2.out]; exact ret_bool (decide_eq_true (by omega)), rfl⟩
theorem bare_parts1 {v : List UInt8} (h : bareB [v] = true) : (v ≠ [] ∧ ∀ b ∈ v, markB b = false) ∧ v.length ≤ 1000 := by
  unfold bareB at h
  rw [Bool.and_eq_true] at h
  have h1 := List.all_eq_true.1 h.1 v (by simp)
  rw [Bool.and_eq_true] at h1
  have h2 := of_decide_eq_true h.2
  refine ⟨⟨?_, fun b hb => ?_⟩, by simp [szs] at h2; omega⟩
  · rintro rfl
    simp at h1
  · have := List.all_eq_true.1 h1.2 b hb
    simpa using this
theorem cat_var (u : List UInt8) : ⟨#[112, 32, 36]⟩ ++ txt u ++ ⟨#[32, 39, 36]⟩ ++ txt u ++ ⟨#[39, 32, 36, 123]⟩ ++ txt u ++ ⟨#[125]⟩ = txt (varL u) := by
  unfold varL
  rw [show (⟨#[112, 32, 36]⟩ : ByteArray) = txt [112, 32, 36] from rfl, show (⟨#[32, 39, 36]⟩ : ByteArray) = txt [32, 39, 36] from rfl, show (⟨#[39, 32, 36, 123]⟩ : ByteArray) = txt [39, 32, 36, 123] from rfl, show (⟨#[125]⟩ : ByteArray) = txt [125] from rfl]
  simp only [txt_append]
theorem cat_dol (u : List UInt8) : ⟨#[36]⟩ ++ txt u = txt (36 :: u) := by
  rw [show (⟨#[36]⟩ : ByteArray) = txt [36] from rfl, txt_append]; rfl
theorem pair_cells (W : World) (a b : List UInt8) : (W.alloc (.cells #[.string (txt a), .string (txt b)] 39)).cell? ⟨W.heap.size, 0, none⟩ = some (.string (txt a)) ∧ (W.alloc (.cells #[.string (txt a), .string (txt b)] 39)).cell? ⟨W.heap.size, 1, none⟩ = some (.string (txt b)) := by
  have h := heap_alloc_new W (.cells #[.string (txt a), .string (txt b)] 39)
  unfold World.cell?
  rw [h]
  simp
abbrev pairW (W : World) (a b : List UInt8) : World := W.alloc (.cells #[.string (txt a), .string (txt b)] 39)
theorem pair_below {w W : World} (a b : List UInt8) (h : Below w.heap.size w W) : Below w.heap.size w (pairW W a b) := h.alloc h.size _
set_option maxHeartbeats 3200000 in
theorem law_wordsVars (a b : ByteArray) (w : World) (_ha : a.size ≤ 140737488351232) (_hb : b.size ≤ 140737488351232) (hE : Er w) (hN : Nt w) :
    Calls Tryd.prog 8 #[.string a, .string b] w fun e w' => e = .returned (.bool true) ∧ Below w.heap.size w w' := by
  have hbr := Below.refl w.heap.size w
  by_cases hza : (2147483647 : Int) < a.size
  · go_enter Tryd.func8, Tryd.ntmps8
    go_wp2
    go_ret
    exact ⟨rfl, hbr⟩
  by_cases hzb : (2147483647 : Int) < b.size
  · go_enter Tryd.func8, Tryd.ntmps8
    go_wp2
    go_ret
    exact ⟨rfl, hbr⟩
  obtain ⟨nm, rfl⟩ : ∃ la, a = txt la := ⟨a.data.toList, rfl⟩
  obtain ⟨vl, rfl⟩ : ∃ lb, b = txt lb := ⟨b.data.toList, rfl⟩
  rw [txt_size] at hza hzb
  have hsn := txt_size nm
  have hsv := txt_size vl
  have h0 := pair_below [65] [98] hbr
  have C0 := Lib.hid (words_v [65] [98] [[98]] [36, 65] w.heap.size 1 (pairW w [65] [98]) (hE.below h0) (by decide) (by decide) (pair_cells w [65] [98]).1 (pair_cells w [65] [98]).2 (hN.below h0) (by decide) (by decide) (by decide) (by decide) var_a)
  have CS := Lib.hid fun W => simple_big nm W (by omega)
  have CL := Lib.hid fun c W => letter_any c W
  have CB := Lib.hid fun W v (h : Tx W v [vl]) => bare_any [vl] v W h (by simp [szs]; omega)
  have HE := Lib.hid hE
  have HN := Lib.hid hN
  have HBA := Lib.hid h0
  clear hE hN h0
  cases hs : simpleB nm with
  | false =>
    rw [hs] at CS
    clear hs
    go_enter Tryd.func8, Tryd.ntmps8
    go_wp2_with fail
    refine C0.out.mono ?_
    rintro e w1 ⟨hb1, _, hS⟩
    obtain ⟨ao1, cap, he, hown⟩ := hS _ _ rfl
    generalize Value.slice ao1 ([[98]] : List (List UInt8)).length cap = v0 at he hown
    subst he
    have hx := tx_own hown
    have HB1 := Lib.hid (below_own hb1 HBA.out)
    have CE := Lib.hid fun (vb : Value) W (h : Below w1.heap.size w1 W) (hb : Tx W vb [[98]]) => eq_texts _ _ _ vb W (hx.below h) hb (by decide) (by decide)
    clear hS hown hx hb1
    go_wp2_with fail
    refine (CE.out _ _ ((Below.refl _ _).alloc (Nat.le_refl _) _) (tx_alloc w1 [[98]] 1)).mono ?_
    rintro e w2 ⟨rfl, hb2⟩
    have hw2 := HB1.out.trans ((((Below.refl w1.heap.size w1).alloc (Nat.le_refl _) _).trans (hb2.mono (by simp))).mono HB1.out.size)
    clear hb2
    go_wp2_with fail
    refine (CS.out w2).mono ?_
    rintro e wx ⟨rfl, hwx⟩
    obtain rfl := hwx.symm
    go_wp2
    go_ret
    exact ⟨rfl, hw2⟩
  | true =>
  rw [hs] at CS
  have hns : (∀ x ∈ nm, simB x = true) ∧ nm ≠ [] := by
    unfold simpleB at hs
    rw [Bool.and_eq_true] at hs
    exact ⟨fun x hx => List.all_eq_true.1 hs.1 x hx, fun h => by rw [h] at hs; simp at hs⟩
  clear hs
  obtain ⟨c0, hc0⟩ : ∃ c0, nm[0]? = some c0 := ⟨nm[0]'(List.length_pos_iff.2 hns.2), List.getElem?_eq_getElem _⟩
  have hby : ∀ W, (Instr.index 9 (.string (txt nm)) (.int .i64 0)).run Tryd.prog W = .ok (.int .u8 c0.toNat) W := fun W => run_byte nm 0 c0 hc0 W
  clear hc0
  cases hlb : letterB c0 with
  | false =>
    have CL2 := Lib.hid fun W => CL.out c0 W
    rw [hlb] at CL2
    clear hlb
    go_enter Tryd.func8, Tryd.ntmps8
    go_wp2_with fail
    refine C0.out.mono ?_
    rintro e w1 ⟨hb1, _, hS⟩
    obtain ⟨ao1, cap, he, hown⟩ := hS _ _ rfl
    generalize Value.slice ao1 ([[98]] : List (List UInt8)).length cap = v0 at he hown
    subst he
    have hx := tx_own hown
    have HB1 := Lib.hid (below_own hb1 HBA.out)
    have CE := Lib.hid fun (vb : Value) W (h : Below w1.heap.size w1 W) (hb : Tx W vb [[98]]) => eq_texts _ _ _ vb W (hx.below h) hb (by decide) (by decide)
    clear hS hown hx hb1
    go_wp2_with fail
    refine (CE.out _ _ ((Below.refl _ _).alloc (Nat.le_refl _) _) (tx_alloc w1 [[98]] 1)).mono ?_
    rintro e w2 ⟨rfl, hb2⟩
    have hw2 := HB1.out.trans ((((Below.refl w1.heap.size w1).alloc (Nat.le_refl _) _).trans (hb2.mono (by simp))).mono HB1.out.size)
    clear hb2
    go_wp2_with fail
    refine (CS.out w2).mono ?_
    rintro e wx ⟨rfl, hwx⟩
    obtain rfl := hwx.symm
    go_wp2_with fail
    refine (CL2.out w2).mono ?_
    rintro e wx ⟨rfl, hwx⟩
    obtain rfl := hwx.symm
    go_wp2
    go_ret
    exact ⟨rfl, hw2⟩
  | true =>
  have CL2 := Lib.hid fun W => CL.out c0 W
  rw [hlb] at CL2
  clear hlb
  cases hb : bareB [vl] with
  | false =>
    rw [hb] at CB
    clear hb
    go_enter Tryd.func8, Tryd.ntmps8
    go_wp2_with fail
    refine C0.out.mono ?_
    rintro e w1 ⟨hb1, _, hS⟩
    obtain ⟨ao1, cap, he, hown⟩ := hS _ _ rfl
    generalize Value.slice ao1 ([[98]] : List (List UInt8)).length cap = v0 at he hown
    subst he
    have hx := tx_own hown
    have HB1 := Lib.hid (below_own hb1 HBA.out)
    have CE := Lib.hid fun (vb : Value) W (h : Below w1.heap.size w1 W) (hb : Tx W vb [[98]]) => eq_texts _ _ _ vb W (hx.below h) hb (by decide) (by decide)
    clear hS hown hx hb1
    go_wp2_with fail
    refine (CE.out _ _ ((Below.refl _ _).alloc (Nat.le_refl _) _) (tx_alloc w1 [[98]] 1)).mono ?_
    rintro e w2 ⟨rfl, hb2⟩
    have hw2 := HB1.out.trans ((((Below.refl w1.heap.size w1).alloc (Nat.le_refl _) _).trans (hb2.mono (by simp))).mono HB1.out.size)
    clear hb2
    go_wp2_with fail
    refine (CS.out w2).mono ?_
    rintro e wx ⟨rfl, hwx⟩
    obtain rfl := hwx.symm
    go_wp2_with fail
    refine (CL2.out w2).mono ?_
    rintro e wx ⟨rfl, hwx⟩
    obtain rfl := hwx.symm
    go_wp2_with fail
    have hw3 := hw2.alloc hw2.size (.cells #[.string (txt vl)] 9)
    refine (CB.out _ _ (tx_alloc w2 [vl] 1)).mono ?_
    rintro e w4 ⟨rfl, hb4⟩
    have hw4 := below_own hb4 hw3
    clear hb4 hw3
    go_wp2
    go_ret
    exact ⟨rfl, hw4⟩
  | true =>
  rw [hb] at CB
  obtain ⟨hbp, hbz⟩ := bare_parts1 hb
  clear hb
  by_cases h50 : (50 : Int) < nm.length
  · have hg50 : (50 : Int) < (txt nm).size := by omega
    go_enter Tryd.func8, Tryd.ntmps8
    go_wp2_with fail
    refine C0.out.mono ?_
    rintro e w1 ⟨hb1, _, hS⟩
    obtain ⟨ao1, cap, he, hown⟩ := hS _ _ rfl
    generalize Value.slice ao1 ([[98]] : List (List UInt8)).length cap = v0 at he hown
    subst he
    have hx := tx_own hown
    have HB1 := Lib.hid (below_own hb1 HBA.out)
    have CE := Lib.hid fun (vb : Value) W (h : Below w1.heap.size w1 W) (hb : Tx W vb [[98]]) => eq_texts _ _ _ vb W (hx.below h) hb (by decide) (by decide)
    clear hS hown hx hb1
    go_wp2_with fail
    refine (CE.out _ _ ((Below.refl _ _).alloc (Nat.le_refl _) _) (tx_alloc w1 [[98]] 1)).mono ?_
    rintro e w2 ⟨rfl, hb2⟩
    have hw2 := HB1.out.trans ((((Below.refl w1.heap.size w1).alloc (Nat.le_refl _) _).trans (hb2.mono (by simp))).mono HB1.out.size)
    clear hb2
    go_wp2_with fail
    refine (CS.out w2).mono ?_
    rintro e wx ⟨rfl, hwx⟩
    obtain rfl := hwx.symm
    go_wp2_with fail
    refine (CL2.out w2).mono ?_
    rintro e wx ⟨rfl, hwx⟩
    obtain rfl := hwx.symm
    go_wp2_with fail
    have hw3 := hw2.alloc hw2.size (.cells #[.string (txt vl)] 9)
    refine (CB.out _ _ (tx_alloc w2 [vl] 1)).mono ?_
    rintro e w4 ⟨rfl, hb4⟩
    have hw4 := below_own hb4 hw3
    clear hb4 hw3
    go_wp2
    go_ret
    exact ⟨rfl, hw4⟩
  have hg50 : ¬ (50 : Int) < (txt nm).size := by omega
  have hvb : ∀ x ∈ vl, 32 < x.toNat ∧ x.toNat < 128 := fun x hx => by have := mark_not (hbp.2 x hx); omega
  have hLl : (varL nm).length ≤ 1000 := by unfold varL; simp; omega
  have C1 := Lib.hid fun W ob (h : Below w.heap.size w W) (h0 : W.cell? ⟨ob, 0, none⟩ = some (.string (txt nm))) (h1 : W.cell? ⟨ob, 1, none⟩ = some (.string (txt vl))) => words_v nm vl [[112], vl, 36 :: nm, vl] (varL nm) ob 1 W (HE.out.below h) hLl hbz h0 h1 (HN.out.below h) hbp.1 hvb hns.1 hns.2 (var_line nm vl hns.1 hbp.1)
  rw [← cat_var] at C1
  have C2 := Lib.hid fun W vs (h : Below w.heap.size w W) => words_n (36 :: nm) vs W (HE.out.below h) (by simp; omega)
  rw [dol_run nm hns.1 hns.2, ← cat_dol] at C2
  clear hns hLl hvb hbp
  go_enter Tryd.func8, Tryd.ntmps8
  go_wp2_with fail
  refine C0.out.mono ?_
  rintro e w1 ⟨hb1, _, hS⟩
  obtain ⟨ao1, cap, he, hown⟩ := hS _ _ rfl
  generalize Value.slice ao1 ([[98]] : List (List UInt8)).length cap = v0 at he hown
  subst he
  have hx := tx_own hown
  have HB1 := Lib.hid (below_own hb1 HBA.out)
  have CE := Lib.hid fun (vb : Value) W (h : Below w1.heap.size w1 W) (hb : Tx W vb [[98]]) => eq_texts _ _ _ vb W (hx.below h) hb (by decide) (by decide)
  clear hS hown hx hb1
  go_wp2_with fail
  refine (CE.out _ _ ((Below.refl _ _).alloc (Nat.le_refl _) _) (tx_alloc w1 [[98]] 1)).mono ?_
  rintro e w2 ⟨rfl, hb2⟩
  have hw2 := HB1.out.trans ((((Below.refl w1.heap.size w1).alloc (Nat.le_refl _) _).trans (hb2.mono (by simp))).mono HB1.out.size)
  clear hb2
  go_wp2_with fail
  refine (CS.out w2).mono ?_
  rintro e wx ⟨rfl, hwx⟩
  obtain rfl := hwx.symm
  go_wp2_with fail
  refine (CL2.out w2).mono ?_
  rintro e wx ⟨rfl, hwx⟩
  obtain rfl := hwx.symm
  go_wp2_with fail
  have hw3 := hw2.alloc hw2.size (.cells #[.string (txt vl)] 9)
  refine (CB.out _ _ (tx_alloc w2 [vl] 1)).mono ?_
  rintro e w4 ⟨rfl, hb4⟩
  have hw4 := below_own hb4 hw3
  clear hb4 hw3
  go_upto_region 9 with fail
  have hp4 := pair_below nm vl hw4
  have p6 := pair_cells w4 nm vl
  have hsz : (pairW w4 nm vl).heap.size = w4.heap.size + 1 := by simp
  have hk := heap_alloc_new (pairW w4 nm vl) (.cells #[.bool true, .bool false, .slice (some ⟨w4.heap.size, 0, none⟩) 1 1, .string ⟨#[]⟩] 30)
  rw [hsz] at hk
  have q0 := (((Below.refl (pairW w4 nm vl).heap.size _).alloc (Nat.le_refl _) (.cells #[.bool true, .bool false, .slice (some ⟨w4.heap.size, 0, none⟩) 1 1, .string ⟨#[]⟩] 30)).cell (World.block_lt_of_cell? _ _ p6.1)).trans p6.1
  have q1 := (((Below.refl (pairW w4 nm vl).heap.size _).alloc (Nat.le_refl _) (.cells #[.bool true, .bool false, .slice (some ⟨w4.heap.size, 0, none⟩) 1 1, .string ⟨#[]⟩] 30)).cell (World.block_lt_of_cell? _ _ p6.2)).trans p6.2
  have q2 : ((pairW w4 nm vl).alloc (.cells #[.bool true, .bool false, .slice (some ⟨w4.heap.size, 0, none⟩) 1 1, .string ⟨#[]⟩] 30)).cell? ⟨w4.heap.size + 1, 2, none⟩ = some (.slice (some ⟨w4.heap.size, 0, none⟩) 1 1) := by unfold World.cell?; rw [hk]; rfl
  have hw6 := hp4.alloc hp4.size (.cells #[.bool true, .bool false, .slice (some ⟨w4.heap.size, 0, none⟩) 1 1, .string ⟨#[]⟩] 30)
  have D1 := Lib.hid (C1.out _ _ hw6 q0 q1)
  have Q2 := Lib.hid q2
  have HW6 := Lib.hid hw6
  clear q0 q1 q2 hk hsz p6 hp4 hw4 hw6
  go_wp2_with fail
  refine D1.out.mono ?_
  rintro e w7 ⟨hb7, _, hS7⟩
  obtain ⟨ao7, cap7, he, ho7⟩ := hS7 _ _ rfl
  generalize Value.slice ao7 ([[112], vl, 36 :: nm, vl] : List (List UInt8)).length cap7 = v7 at he ho7
  subst he
  have hx7 := tx_own ho7
  have k2 := (hb7.cell (World.block_lt_of_cell? _ _ Q2.out)).trans Q2.out
  have hw7 := below_own hb7 HW6.out
  clear hS7 ho7 hb7 Q2 HW6 D1
  go_wp2_with fail
  refine (C2.out w7 _ hw7).mono ?_
  rintro e w8 ⟨hb8, _, hS8⟩
  obtain ⟨ao8, cap8, he, ho8⟩ := hS8 _ _ rfl
  generalize Value.slice ao8 ([36 :: nm] : List (List UInt8)).length cap8 = v8 at he ho8
  subst he
  have hx8 := tx_own ho8
  have HW8 := Lib.hid (below_own hb8 hw7)
  have hx7' := hx7.below hb8
  have CE1 := Lib.hid fun (vb : Value) W (h : Below w8.heap.size w8 W) (hb : Tx W vb [[112], vl, 36 :: nm, vl]) => eq_texts _ _ _ vb W (hx7'.below h) hb (by simp) (by simp)
  have CE2 := Lib.hid fun (vb : Value) W (h : Below w8.heap.size w8 W) (hb : Tx W vb [36 :: nm]) => eq_texts _ _ _ vb W (hx8.below h) hb (by simp) (by simp)
  rw [decide_eq_true rfl] at CE1 CE2
  have HT1 : Hid (∀ W : World, Tx (W.alloc (.cells #[.string ⟨#[112]⟩, .string (txt vl), .string (⟨#[36]⟩ ++ txt nm), .string (txt vl)] 9)) (.slice (some ⟨W.heap.size, 0, none⟩) 4 4) [[112], vl, 36 :: nm, vl]) := fun W => by rw [cat_dol]; exact tx_alloc W [[112], vl, 36 :: nm, vl] 4
  have HT2 : Hid (∀ W : World, Tx (W.alloc (.cells #[.string (⟨#[36]⟩ ++ txt nm)] 9)) (.slice (some ⟨W.heap.size, 0, none⟩) 1 1) [36 :: nm]) := fun W => by rw [cat_dol]; exact tx_alloc W [36 :: nm] 1
  clear hS8 ho8 hb8 hx7 hx8 hx7' hw7 k2 C2
  go_wp2_with fail
  refine (CE1.out _ _ ((Below.refl _ _).alloc (Nat.le_refl _) _) (HT1.out w8)).mono ?_
  rintro e w9 ⟨rfl, hb9⟩
  have hw9 := ((Below.refl w8.heap.size w8).alloc (Nat.le_refl _) _).trans (hb9.mono (by simp))
  clear hb9
  go_wp2_with fail
  refine (CE2.out _ _ (hw9.alloc hw9.size _) (HT2.out w9)).mono ?_
  rintro e w10 ⟨rfl, hb10⟩
  have HWX := Lib.hid (HW8.out.trans (((hw9.alloc hw9.size _).trans (hb10.mono (by have := hw9.size; simp; omega))).mono HW8.out.size))
  clear hb10 hw9
  go_wp2
  go_ret
  exact ⟨rfl, HWX.out⟩

end Go.Proofs.YthekblmkcfkboaaDoor
