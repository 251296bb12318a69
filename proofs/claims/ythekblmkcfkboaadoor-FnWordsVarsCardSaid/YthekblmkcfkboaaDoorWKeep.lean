/- The law FnWordsKeep: a separator that is to be ignored is a character as any other one. -/
import Derived.Test.YthekblmkcfkboaaDoorWJoin
import Derived.Test.YthekblmkcfkboaaDoorWBareC
namespace Go.Proofs.YthekblmkcfkboaaDoor
open Go.RowKit U8
open Go.Lib hiding intOf

theorem keep0_run : runS false [59] Sx.start (rns [97, 59, 98, 32, 99]) = some ([[97, 59, 98], [99]], -1) := by
  rw [rns_asc _ (by decide)]
  decide
theorem cat_z (u : List UInt8) : txt u ++ ⟨#[32, 122]⟩ = txt (u ++ [32, 122]) := by
  rw [show (⟨#[32, 122]⟩ : ByteArray) = txt [32, 122] from rfl, txt_append]
theorem words_keep (c : UInt8) (hc : c.toNat < 128) (l : List UInt8) (hl : l.length ≤ 100000) (w : World) (hE : Er w) :
    Calls Tryd.prog 13 #[.string (txt l), shellV false [c]] w (WordsPost (runS false [c.toNat] Sx.start (rns l)) w) := by
  have h := words_any false [c.toNat] (fun r hr => by rw [List.mem_singleton] at hr; subst hr; exact sc_small hc) (by simp) l hl w hE
  rw [enc_one, enc1_byte hc] at h
  exact h
theorem bare_parts {l : List (List UInt8)} (h : bareB l = true) : (∀ x ∈ l, x ≠ [] ∧ ∀ b ∈ x, markB b = false) ∧ l.length + szs l ≤ 1000 := by
  unfold bareB at h
  rw [Bool.and_eq_true] at h
  refine ⟨fun x hx => ?_, of_decide_eq_true h.2⟩
  have h1 := List.all_eq_true.1 h.1 x hx
  rw [Bool.and_eq_true] at h1
  refine ⟨?_, fun b hb => ?_⟩
  · rintro rfl
    simp at h1
  · have := List.all_eq_true.1 h1.2 b hb
    simpa using this
theorem join_bytes (c : UInt8) {l : List (List UInt8)} (h : ∀ x ∈ l, x ≠ [] ∧ ∀ b ∈ x, markB b = false) : ∀ b ∈ joinA [c] l, markB b = false ∨ b = c := by
  cases l with
  | nil => intro b hb; cases hb
  | cons x l =>
    intro b hb
    unfold joinA at hb
    rcases List.mem_append.1 hb with hb | hb
    · exact .inl ((h x (by simp)).2 b hb)
    · obtain ⟨y, hy, hb⟩ := List.mem_flatMap.1 hb
      rcases List.mem_append.1 hb with hb | hb
      · exact .inr (List.mem_singleton.1 hb)
      · exact .inl ((h y (by simp [hy])).2 b hb)
theorem join_ne (c : UInt8) {l : List (List UInt8)} (h : ∀ x ∈ l, x ≠ [] ∧ ∀ b ∈ x, markB b = false) (hl : l ≠ []) : joinA [c] l ≠ [] := by
  cases l with
  | nil => exact absurd rfl hl
  | cons x l =>
    unfold joinA
    intro he
    exact (h x (by simp)).1 (List.append_eq_nil_iff.1 he).1
set_option maxHeartbeats 3200000 in
theorem law_wordsKeep (l : List (List UInt8)) (v : Value) (n : Int) (w : World) (hT : Tx w v l) (hm : l.length ≤ 9223372036854775807) (hx2 : ∀ x ∈ l, x.length ≤ 9223372036854775807) (hn0 : 0 ≤ n) (_hn1 : n ≤ 255) (hE : Er w) :
    Calls Tryd.prog 7 #[v, .int .u8 n] w fun e w' => e = .returned (.bool true) ∧ Below w.heap.size w w' := by
  have hbr := Below.refl w.heap.size w
  have CF := Lib.hid (fits_any l v w hT hm hx2)
  cases hf : fitsB l with
  | false =>
    rw [hf] at CF
    obtain ⟨ao, cap, rfl, _⟩ := hT
    clear hf
    go_enter Tryd.func7, Tryd.ntmps7
    go_wp2_with fail
    refine CF.out.mono ?_
    rintro e wx ⟨rfl, hwx⟩
    obtain rfl := hwx.symm
    go_wp2
    go_ret
    exact ⟨rfl, hbr⟩
  | true =>
  rw [hf] at CF
  have hsz := fits_sz hf
  have C0 := Lib.hid (words_keep 59 (by decide) [97, 59, 98, 32, 99] (by decide) w hE)
  have CB := Lib.hid fun W (h : Below w.heap.size w W) => bare_any l v W (hT.below h) hsz
  have HE := Lib.hid hE
  have HT := Lib.hid hT
  have htmod : n.tmod 4 = n % 4 := Int.tmod_eq_emod_of_nonneg hn0
  have hf4 : n % 4 = 0 ∨ n % 4 = 1 ∨ n % 4 = 2 ∨ n % 4 = 3 := by omega
  obtain ⟨ao, cap0, hv, _⟩ := hT
  have hV := Lib.hid hv
  clear hf hE hv
  cases hb : bareB l with
  | false =>
    rw [hb] at CB
    clear hb
    go_enter Tryd.func7, Tryd.ntmps7
    go_wp2_with fail
    refine CF.out.mono ?_
    rintro e wx ⟨rfl, hwx⟩
    obtain rfl := hwx.symm
    go_wp2_with fail
    refine C0.out.mono ?_
    rintro e w1 ⟨hb1, _, hS⟩
    obtain ⟨ao1, cap, he, hown⟩ := hS _ _ keep0_run
    generalize Value.slice ao1 ([[97, 59, 98], [99]] : List (List UInt8)).length cap = v0 at he hown
    subst he
    have hx := tx_own hown
    have HB1 := Lib.hid hb1
    have CE := Lib.hid fun (vb : Value) W (h : Below w1.heap.size w1 W) (hb : Tx W vb [[97, 59, 98], [99]]) => eq_texts _ _ _ vb W (hx.below h) hb (by decide) (by decide)
    clear hS hown hx hb1
    go_wp2_with fail
    refine (CE.out _ _ ((Below.refl _ _).alloc (Nat.le_refl _) _) (tx_alloc w1 [[97, 59, 98], [99]] 2)).mono ?_
    rintro e w2 ⟨rfl, hb2⟩
    have hw2 := HB1.out.trans ((((Below.refl w1.heap.size w1).alloc (Nat.le_refl _) _).trans (hb2.mono (by simp))).mono HB1.out.size)
    clear hb2
    go_wp2_with fail
    refine (CB.out w2 hw2).mono ?_
    rintro e w3 ⟨rfl, hb3⟩
    have hw3 := below_own hb3 hw2
    have HW3 := Lib.hid hw3
    clear hb3 hw2
    go_wp2
    go_ret
    exact ⟨rfl, HW3.out⟩
  | true =>
  rw [hb] at CB
  obtain ⟨hbp, hbz⟩ := bare_parts hb
  by_cases hl0 : l = []
  · subst hl0
    have hv2 := hV.out
    subst hv2
    clear hb
    go_enter Tryd.func7, Tryd.ntmps7
    go_wp2_with fail
    refine CF.out.mono ?_
    rintro e wx ⟨rfl, hwx⟩
    obtain rfl := hwx.symm
    go_wp2_with fail
    refine C0.out.mono ?_
    rintro e w1 ⟨hb1, _, hS⟩
    obtain ⟨ao1, cap, he, hown⟩ := hS _ _ keep0_run
    generalize Value.slice ao1 ([[97, 59, 98], [99]] : List (List UInt8)).length cap = v0 at he hown
    subst he
    have hx := tx_own hown
    have HB1 := Lib.hid hb1
    have CE := Lib.hid fun (vb : Value) W (h : Below w1.heap.size w1 W) (hb : Tx W vb [[97, 59, 98], [99]]) => eq_texts _ _ _ vb W (hx.below h) hb (by decide) (by decide)
    clear hS hown hx hb1
    go_wp2_with fail
    refine (CE.out _ _ ((Below.refl _ _).alloc (Nat.le_refl _) _) (tx_alloc w1 [[97, 59, 98], [99]] 2)).mono ?_
    rintro e w2 ⟨rfl, hb2⟩
    have hw2 := HB1.out.trans ((((Below.refl w1.heap.size w1).alloc (Nat.le_refl _) _).trans (hb2.mono (by simp))).mono HB1.out.size)
    clear hb2
    go_wp2_with fail
    refine (CB.out w2 hw2).mono ?_
    rintro e w3 ⟨rfl, hb3⟩
    have hw3 := below_own hb3 hw2
    have HW3 := Lib.hid hw3
    clear hb3 hw2
    go_wp2
    go_ret
    exact ⟨rfl, HW3.out⟩
  have hll : (l.length : Int) ≠ 0 := by
    intro h
    exact hl0 (List.length_eq_zero_iff.1 (by omega))
  have hll2 : ((l.length : Int) == 0) = false := by simpa using hll
  have hjl := fun (c : UInt8) => joinA_len [c] (by simp) l
  have CJ := Lib.hid fun (c : UInt8) W (h : Below w.heap.size w W) => joined_any l [c] v W (HT.out.below h) (by omega) (by simp)
  have HRun := Lib.hid fun (c : UInt8) (hc : c.toNat = 59 ∨ c.toNat = 38 ∨ c.toNat = 124 ∨ c.toNat = 9) => keep_run c (joinA [c] l) hc (join_bytes c hbp) (join_ne c hbp hl0)
  have hv2 := hV.out
  subst hv2
  clear hb hbp hl0 hll
  rcases hf4 with hf4 | hf4 | hf4 | hf4
  · rw [hf4] at htmod
    go_enter Tryd.func7, Tryd.ntmps7
    go_wp2_with fail
    refine CF.out.mono ?_
    rintro e wx ⟨rfl, hwx⟩
    obtain rfl := hwx.symm
    go_wp2_with fail
    refine C0.out.mono ?_
    rintro e w1 ⟨hb1, _, hS⟩
    obtain ⟨ao1, cap, he, hown⟩ := hS _ _ keep0_run
    generalize Value.slice ao1 ([[97, 59, 98], [99]] : List (List UInt8)).length cap = v0 at he hown
    subst he
    have hx := tx_own hown
    have HB1 := Lib.hid hb1
    have CE := Lib.hid fun (vb : Value) W (h : Below w1.heap.size w1 W) (hb : Tx W vb [[97, 59, 98], [99]]) => eq_texts _ _ _ vb W (hx.below h) hb (by decide) (by decide)
    clear hS hown hx hb1
    go_wp2_with fail
    refine (CE.out _ _ ((Below.refl _ _).alloc (Nat.le_refl _) _) (tx_alloc w1 [[97, 59, 98], [99]] 2)).mono ?_
    rintro e w2 ⟨rfl, hb2⟩
    have hw2 := HB1.out.trans ((((Below.refl w1.heap.size w1).alloc (Nat.le_refl _) _).trans (hb2.mono (by simp))).mono HB1.out.size)
    clear hb2
    go_wp2_with fail
    refine (CB.out w2 hw2).mono ?_
    rintro e w3 ⟨rfl, hb3⟩
    have hw3 := below_own hb3 hw2
    have HW3 := Lib.hid hw3
    clear hb3 hw2
    obtain ⟨u, hu⟩ : ∃ u, joinA [59] l = u := ⟨_, rfl⟩
    have hul := hjl 59
    rw [hu] at hul
    have CJ1 := Lib.hid (CJ.out 59)
    rw [hu] at CJ1
    have hrun := HRun.out 59 (by decide)
    rw [hu] at hrun
    have hts := txt_size u
    have C4 := Lib.hid fun W (hE : Er W) => words_keep 59 (by decide) (u ++ [32, 122]) (by simp; omega) W hE
    rw [← cat_z] at C4
    clear hu hjl
    go_wp2_with fail
    have hw4 : Below w.heap.size w _ := hw3.alloc hw3.size (.cells #[.string ⟨#[59]⟩, .string ⟨#[38]⟩, .string ⟨#[124]⟩, .string ⟨#[9]⟩] 9)
    refine (CJ1.out _ hw4).mono ?_
    rintro e wx ⟨rfl, hwx⟩
    obtain rfl := hwx.symm
    go_wp2_with fail
    refine (C4.out _ (HE.out.below hw4)).mono ?_
    rintro e w5 ⟨hb5, _, hS5⟩
    obtain ⟨ao5, cap5, he, hoz⟩ := hS5 _ _ hrun
    generalize Value.slice ao5 ([u, [122]] : List (List UInt8)).length cap5 = vz at he hoz
    subst he
    have hx5 := tx_own hoz
    have hw5 := below_own hb5 hw4
    have HW5 := Lib.hid hw5
    have CE5 := Lib.hid fun (vb : Value) W (h : Below w5.heap.size w5 W) (hb : Tx W vb [u, [122]]) => eq_texts [u, [122]] [u, [122]] vz vb W (hx5.below h) hb (by simp) (by simp)
    clear hS5 hoz hx5 hrun hb5 hw4 hw3
    go_wp2_with fail
    refine (CJ1.out _ hw5).mono ?_
    rintro e wx ⟨rfl, hwx⟩
    obtain rfl := hwx.symm
    clear hw5
    go_wp2_with fail
    refine (CE5.out _ _ ((Below.refl _ _).alloc (Nat.le_refl _) _) (tx_alloc w5 [u, [122]] 2)).mono ?_
    rintro e w6 ⟨rfl, hb6⟩
    have HW6 := Lib.hid (HW5.out.trans ((((Below.refl w5.heap.size w5).alloc (Nat.le_refl _) _).trans (hb6.mono (by simp))).mono HW5.out.size))
    clear hb6
    go_wp2
    go_ret
    exact ⟨by simp, HW6.out⟩
  · rw [hf4] at htmod
    go_enter Tryd.func7, Tryd.ntmps7
    go_wp2_with fail
    refine CF.out.mono ?_
    rintro e wx ⟨rfl, hwx⟩
    obtain rfl := hwx.symm
    go_wp2_with fail
    refine C0.out.mono ?_
    rintro e w1 ⟨hb1, _, hS⟩
    obtain ⟨ao1, cap, he, hown⟩ := hS _ _ keep0_run
    generalize Value.slice ao1 ([[97, 59, 98], [99]] : List (List UInt8)).length cap = v0 at he hown
    subst he
    have hx := tx_own hown
    have HB1 := Lib.hid hb1
    have CE := Lib.hid fun (vb : Value) W (h : Below w1.heap.size w1 W) (hb : Tx W vb [[97, 59, 98], [99]]) => eq_texts _ _ _ vb W (hx.below h) hb (by decide) (by decide)
    clear hS hown hx hb1
    go_wp2_with fail
    refine (CE.out _ _ ((Below.refl _ _).alloc (Nat.le_refl _) _) (tx_alloc w1 [[97, 59, 98], [99]] 2)).mono ?_
    rintro e w2 ⟨rfl, hb2⟩
    have hw2 := HB1.out.trans ((((Below.refl w1.heap.size w1).alloc (Nat.le_refl _) _).trans (hb2.mono (by simp))).mono HB1.out.size)
    clear hb2
    go_wp2_with fail
    refine (CB.out w2 hw2).mono ?_
    rintro e w3 ⟨rfl, hb3⟩
    have hw3 := below_own hb3 hw2
    have HW3 := Lib.hid hw3
    clear hb3 hw2
    obtain ⟨u, hu⟩ : ∃ u, joinA [38] l = u := ⟨_, rfl⟩
    have hul := hjl 38
    rw [hu] at hul
    have CJ1 := Lib.hid (CJ.out 38)
    rw [hu] at CJ1
    have hrun := HRun.out 38 (by decide)
    rw [hu] at hrun
    have hts := txt_size u
    have C4 := Lib.hid fun W (hE : Er W) => words_keep 38 (by decide) (u ++ [32, 122]) (by simp; omega) W hE
    rw [← cat_z] at C4
    clear hu hjl
    go_wp2_with fail
    have hw4 : Below w.heap.size w _ := hw3.alloc hw3.size (.cells #[.string ⟨#[59]⟩, .string ⟨#[38]⟩, .string ⟨#[124]⟩, .string ⟨#[9]⟩] 9)
    refine (CJ1.out _ hw4).mono ?_
    rintro e wx ⟨rfl, hwx⟩
    obtain rfl := hwx.symm
    go_wp2_with fail
    refine (C4.out _ (HE.out.below hw4)).mono ?_
    rintro e w5 ⟨hb5, _, hS5⟩
    obtain ⟨ao5, cap5, he, hoz⟩ := hS5 _ _ hrun
    generalize Value.slice ao5 ([u, [122]] : List (List UInt8)).length cap5 = vz at he hoz
    subst he
    have hx5 := tx_own hoz
    have hw5 := below_own hb5 hw4
    have HW5 := Lib.hid hw5
    have CE5 := Lib.hid fun (vb : Value) W (h : Below w5.heap.size w5 W) (hb : Tx W vb [u, [122]]) => eq_texts [u, [122]] [u, [122]] vz vb W (hx5.below h) hb (by simp) (by simp)
    clear hS5 hoz hx5 hrun hb5 hw4 hw3
    go_wp2_with fail
    refine (CJ1.out _ hw5).mono ?_
    rintro e wx ⟨rfl, hwx⟩
    obtain rfl := hwx.symm
    clear hw5
    go_wp2_with fail
    refine (CE5.out _ _ ((Below.refl _ _).alloc (Nat.le_refl _) _) (tx_alloc w5 [u, [122]] 2)).mono ?_
    rintro e w6 ⟨rfl, hb6⟩
    have HW6 := Lib.hid (HW5.out.trans ((((Below.refl w5.heap.size w5).alloc (Nat.le_refl _) _).trans (hb6.mono (by simp))).mono HW5.out.size))
    clear hb6
    go_wp2
    go_ret
    exact ⟨by simp, HW6.out⟩
  · rw [hf4] at htmod
    go_enter Tryd.func7, Tryd.ntmps7
    go_wp2_with fail
    refine CF.out.mono ?_
    rintro e wx ⟨rfl, hwx⟩
    obtain rfl := hwx.symm
    go_wp2_with fail
    refine C0.out.mono ?_
    rintro e w1 ⟨hb1, _, hS⟩
    obtain ⟨ao1, cap, he, hown⟩ := hS _ _ keep0_run
    generalize Value.slice ao1 ([[97, 59, 98], [99]] : List (List UInt8)).length cap = v0 at he hown
    subst he
    have hx := tx_own hown
    have HB1 := Lib.hid hb1
    have CE := Lib.hid fun (vb : Value) W (h : Below w1.heap.size w1 W) (hb : Tx W vb [[97, 59, 98], [99]]) => eq_texts _ _ _ vb W (hx.below h) hb (by decide) (by decide)
    clear hS hown hx hb1
    go_wp2_with fail
    refine (CE.out _ _ ((Below.refl _ _).alloc (Nat.le_refl _) _) (tx_alloc w1 [[97, 59, 98], [99]] 2)).mono ?_
    rintro e w2 ⟨rfl, hb2⟩
    have hw2 := HB1.out.trans ((((Below.refl w1.heap.size w1).alloc (Nat.le_refl _) _).trans (hb2.mono (by simp))).mono HB1.out.size)
    clear hb2
    go_wp2_with fail
    refine (CB.out w2 hw2).mono ?_
    rintro e w3 ⟨rfl, hb3⟩
    have hw3 := below_own hb3 hw2
    have HW3 := Lib.hid hw3
    clear hb3 hw2
    obtain ⟨u, hu⟩ : ∃ u, joinA [124] l = u := ⟨_, rfl⟩
    have hul := hjl 124
    rw [hu] at hul
    have CJ1 := Lib.hid (CJ.out 124)
    rw [hu] at CJ1
    have hrun := HRun.out 124 (by decide)
    rw [hu] at hrun
    have hts := txt_size u
    have C4 := Lib.hid fun W (hE : Er W) => words_keep 124 (by decide) (u ++ [32, 122]) (by simp; omega) W hE
    rw [← cat_z] at C4
    clear hu hjl
    go_wp2_with fail
    have hw4 : Below w.heap.size w _ := hw3.alloc hw3.size (.cells #[.string ⟨#[59]⟩, .string ⟨#[38]⟩, .string ⟨#[124]⟩, .string ⟨#[9]⟩] 9)
    refine (CJ1.out _ hw4).mono ?_
    rintro e wx ⟨rfl, hwx⟩
    obtain rfl := hwx.symm
    go_wp2_with fail
    refine (C4.out _ (HE.out.below hw4)).mono ?_
    rintro e w5 ⟨hb5, _, hS5⟩
    obtain ⟨ao5, cap5, he, hoz⟩ := hS5 _ _ hrun
    generalize Value.slice ao5 ([u, [122]] : List (List UInt8)).length cap5 = vz at he hoz
    subst he
    have hx5 := tx_own hoz
    have hw5 := below_own hb5 hw4
    have HW5 := Lib.hid hw5
    have CE5 := Lib.hid fun (vb : Value) W (h : Below w5.heap.size w5 W) (hb : Tx W vb [u, [122]]) => eq_texts [u, [122]] [u, [122]] vz vb W (hx5.below h) hb (by simp) (by simp)
    clear hS5 hoz hx5 hrun hb5 hw4 hw3
    go_wp2_with fail
    refine (CJ1.out _ hw5).mono ?_
    rintro e wx ⟨rfl, hwx⟩
    obtain rfl := hwx.symm
    clear hw5
    go_wp2_with fail
    refine (CE5.out _ _ ((Below.refl _ _).alloc (Nat.le_refl _) _) (tx_alloc w5 [u, [122]] 2)).mono ?_
    rintro e w6 ⟨rfl, hb6⟩
    have HW6 := Lib.hid (HW5.out.trans ((((Below.refl w5.heap.size w5).alloc (Nat.le_refl _) _).trans (hb6.mono (by simp))).mono HW5.out.size))
    clear hb6
    go_wp2
    go_ret
    exact ⟨by simp, HW6.out⟩
  · rw [hf4] at htmod
    go_enter Tryd.func7, Tryd.ntmps7
    go_wp2_with fail
    refine CF.out.mono ?_
    rintro e wx ⟨rfl, hwx⟩
    obtain rfl := hwx.symm
    go_wp2_with fail
    refine C0.out.mono ?_
    rintro e w1 ⟨hb1, _, hS⟩
    obtain ⟨ao1, cap, he, hown⟩ := hS _ _ keep0_run
    generalize Value.slice ao1 ([[97, 59, 98], [99]] : List (List UInt8)).length cap = v0 at he hown
    subst he
    have hx := tx_own hown
    have HB1 := Lib.hid hb1
    have CE := Lib.hid fun (vb : Value) W (h : Below w1.heap.size w1 W) (hb : Tx W vb [[97, 59, 98], [99]]) => eq_texts _ _ _ vb W (hx.below h) hb (by decide) (by decide)
    clear hS hown hx hb1
    go_wp2_with fail
    refine (CE.out _ _ ((Below.refl _ _).alloc (Nat.le_refl _) _) (tx_alloc w1 [[97, 59, 98], [99]] 2)).mono ?_
    rintro e w2 ⟨rfl, hb2⟩
    have hw2 := HB1.out.trans ((((Below.refl w1.heap.size w1).alloc (Nat.le_refl _) _).trans (hb2.mono (by simp))).mono HB1.out.size)
    clear hb2
    go_wp2_with fail
    refine (CB.out w2 hw2).mono ?_
    rintro e w3 ⟨rfl, hb3⟩
    have hw3 := below_own hb3 hw2
    have HW3 := Lib.hid hw3
    clear hb3 hw2
    obtain ⟨u, hu⟩ : ∃ u, joinA [9] l = u := ⟨_, rfl⟩
    have hul := hjl 9
    rw [hu] at hul
    have CJ1 := Lib.hid (CJ.out 9)
    rw [hu] at CJ1
    have hrun := HRun.out 9 (by decide)
    rw [hu] at hrun
    have hts := txt_size u
    have C4 := Lib.hid fun W (hE : Er W) => words_keep 9 (by decide) (u ++ [32, 122]) (by simp; omega) W hE
    rw [← cat_z] at C4
    clear hu hjl
    go_wp2_with fail
    have hw4 : Below w.heap.size w _ := hw3.alloc hw3.size (.cells #[.string ⟨#[59]⟩, .string ⟨#[38]⟩, .string ⟨#[124]⟩, .string ⟨#[9]⟩] 9)
    refine (CJ1.out _ hw4).mono ?_
    rintro e wx ⟨rfl, hwx⟩
    obtain rfl := hwx.symm
    go_wp2_with fail
    refine (C4.out _ (HE.out.below hw4)).mono ?_
    rintro e w5 ⟨hb5, _, hS5⟩
    obtain ⟨ao5, cap5, he, hoz⟩ := hS5 _ _ hrun
    generalize Value.slice ao5 ([u, [122]] : List (List UInt8)).length cap5 = vz at he hoz
    subst he
    have hx5 := tx_own hoz
    have hw5 := below_own hb5 hw4
    have HW5 := Lib.hid hw5
    have CE5 := Lib.hid fun (vb : Value) W (h : Below w5.heap.size w5 W) (hb : Tx W vb [u, [122]]) => eq_texts [u, [122]] [u, [122]] vz vb W (hx5.below h) hb (by simp) (by simp)
    clear hS5 hoz hx5 hrun hb5 hw4 hw3
    go_wp2_with fail
    refine (CJ1.out _ hw5).mono ?_
    rintro e wx ⟨rfl, hwx⟩
    obtain rfl := hwx.symm
    clear hw5
    go_wp2_with fail
    refine (CE5.out _ _ ((Below.refl _ _).alloc (Nat.le_refl _) _) (tx_alloc w5 [u, [122]] 2)).mono ?_
    rintro e w6 ⟨rfl, hb6⟩
    have HW6 := Lib.hid (HW5.out.trans ((((Below.refl w5.heap.size w5).alloc (Nat.le_refl _) _).trans (hb6.mono (by simp))).mono HW5.out.size))
    clear hb6
    go_wp2
    go_ret
    exact ⟨by simp, HW6.out⟩

end Go.Proofs.YthekblmkcfkboaaDoor
