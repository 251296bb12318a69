/- The law FnWordsComment: what stands behind a blank and a number sign is left out where comments are. -/
import Derived.Test.YthekblmkcfkboaaDoorWJoin
import Derived.Test.YthekblmkcfkboaaDoorWSeen
namespace Go.Proofs.YthekblmkcfkboaaDoor
open Go.RowKit U8
open Go.Lib hiding intOf

theorem comm_run : runS true [] Sx.start (rns [97, 32, 35, 32, 98]) = some ([[97]], -1) := by
  rw [rns_asc _ (by decide)]
  decide
theorem cat_comm (la lb : List UInt8) : txt la ++ ⟨#[32, 35]⟩ ++ txt lb = txt (la ++ 32 :: 35 :: lb) := by
  rw [show (⟨#[32, 35]⟩ : ByteArray) = txt [32, 35] from rfl, txt_append, txt_append, List.append_assoc]; rfl
theorem seen_one (x : List UInt8) (W : World) (g : Nat) (hg : W.heap.size = g) (hx : x.length ≤ 4096) : Calls Tryd.prog 16 #[.slice (some ⟨g, 0, none⟩) 1 1] (W.alloc (.cells #[.string (txt x)] 9)) fun e w' => e = .returned (.bool (seenB [x])) ∧ w' = W.alloc (.cells #[.string (txt x)] 9) :=
  hg ▸ seen_any [x] _ _ (tx_alloc W [x] 1) (by simp [szs]; omega)
theorem seen_vis {x : List UInt8} (h : seenB [x] = true) : ∀ b ∈ x, 32 ≤ b.toNat ∧ b.toNat < 127 := by
  unfold seenB at h
  rw [Bool.and_eq_true] at h
  intro b hb
  have h1 := List.all_eq_true.1 (by simpa using h.1) b hb
  exact of_decide_eq_true h1
set_option maxHeartbeats 2000000 in
theorem law_wordsComment (a b : ByteArray) (w : World) (_ha : a.size ≤ 140737488351232) (_hb : b.size ≤ 140737488351232) (hE : Er w) :
    Calls Tryd.prog 4 #[.string a, .string b] w fun e w' => e = .returned (.bool true) ∧ Below w.heap.size w w' := by
  have hbr := Below.refl w.heap.size w
  by_cases hza : (2147483647 : Int) < a.size
  · go_enter Tryd.func4, Tryd.ntmps4
    go_wp2
    go_ret
    exact ⟨rfl, hbr⟩
  by_cases hzb : (2147483647 : Int) < b.size
  · go_enter Tryd.func4, Tryd.ntmps4
    go_wp2
    go_ret
    exact ⟨rfl, hbr⟩
  have C0 := Lib.hid (words_any true [] (fun _ h => by cases h) (by decide) [97, 32, 35, 32, 98] (by decide) w hE)
  have CA := Lib.hid fun W => long_any a _ W rfl (by omega)
  have CB := Lib.hid fun W => long_any b _ W rfl (by omega)
  have HE := Lib.hid hE
  clear hE
  cases hla : decide (4096 < a.size) with
  | true =>
    rw [hla] at CA
    clear hla
    go_enter Tryd.func4, Tryd.ntmps4
    go_wp2_with fail
    refine C0.out.mono ?_
    rintro e w1 ⟨hb1, _, hS⟩
    obtain ⟨ao, cap, he, hown⟩ := hS _ _ comm_run
    generalize Value.slice ao ([[97]] : List (List UInt8)).length cap = v0 at he hown
    subst he
    have hx := tx_own hown
    have HB1 := Lib.hid hb1
    have CE := Lib.hid fun (vb : Value) W (h : Below w1.heap.size w1 W) (hb : Tx W vb [[97]]) => eq_texts _ _ _ vb W (hx.below h) hb (by decide) (by decide)
    clear hS hown hx hb1
    go_wp2_with fail
    refine (CE.out _ _ ((Below.refl _ _).alloc (Nat.le_refl _) _) (tx_alloc w1 [[97]] 1)).mono ?_
    rintro e w2 ⟨rfl, hb2⟩
    have hw2 := HB1.out.trans ((((Below.refl w1.heap.size w1).alloc (Nat.le_refl _) _).trans (hb2.mono (by simp))).mono HB1.out.size)
    clear hb2
    go_wp2_with (first | (go_at_call 15; refine (CA.out _).mono ?_; rintro e wx ⟨rfl, hwx⟩; obtain rfl := hwx.symm))
    go_ret
    exact ⟨rfl, by first | exact hw2 | exact hw2.alloc hw2.size _ | exact (hw2.alloc hw2.size _).alloc (by have := hw2.size; simp; omega) _⟩
  | false =>
  cases hlb : decide (4096 < b.size) with
  | true =>
    rw [hla] at CA
    rw [hlb] at CB
    clear hla hlb
    go_enter Tryd.func4, Tryd.ntmps4
    go_wp2_with fail
    refine C0.out.mono ?_
    rintro e w1 ⟨hb1, _, hS⟩
    obtain ⟨ao, cap, he, hown⟩ := hS _ _ comm_run
    generalize Value.slice ao ([[97]] : List (List UInt8)).length cap = v0 at he hown
    subst he
    have hx := tx_own hown
    have HB1 := Lib.hid hb1
    have CE := Lib.hid fun (vb : Value) W (h : Below w1.heap.size w1 W) (hb : Tx W vb [[97]]) => eq_texts _ _ _ vb W (hx.below h) hb (by decide) (by decide)
    clear hS hown hx hb1
    go_wp2_with fail
    refine (CE.out _ _ ((Below.refl _ _).alloc (Nat.le_refl _) _) (tx_alloc w1 [[97]] 1)).mono ?_
    rintro e w2 ⟨rfl, hb2⟩
    have hw2 := HB1.out.trans ((((Below.refl w1.heap.size w1).alloc (Nat.le_refl _) _).trans (hb2.mono (by simp))).mono HB1.out.size)
    clear hb2
    go_wp2_with (first | (go_at_call 15; refine (CA.out _).mono ?_; rintro e wx ⟨rfl, hwx⟩; obtain rfl := hwx.symm) | (go_at_call 15; refine (CB.out _).mono ?_; rintro e wx ⟨rfl, hwx⟩; obtain rfl := hwx.symm))
    go_ret
    exact ⟨rfl, by first | exact hw2 | exact hw2.alloc hw2.size _ | exact (hw2.alloc hw2.size _).alloc (by have := hw2.size; simp; omega) _⟩
  | false =>
  rw [hla] at CA
  rw [hlb] at CB
  have hla2 := of_decide_eq_false hla
  have hlb2 := of_decide_eq_false hlb
  clear hla hlb
  obtain ⟨la, rfl⟩ : ∃ la, a = txt la := ⟨a.data.toList, rfl⟩
  obtain ⟨lb, rfl⟩ : ∃ lb, b = txt lb := ⟨b.data.toList, rfl⟩
  rw [txt_size] at hla2 hlb2
  have C1 := Lib.hid fun W g (hg : W.heap.size = g) => seen_one lb W g hg (by omega)
  have C2 := Lib.hid fun W g (hg : W.heap.size = g) => seen_one la W g hg (by omega)
  have CH := Lib.hid fun W => has_any la 35 W (by omega)
  cases h1 : seenB [lb] with
  | false =>
    rw [h1] at C1
    clear h1
    go_enter Tryd.func4, Tryd.ntmps4
    go_wp2_with fail
    refine C0.out.mono ?_
    rintro e w1 ⟨hb1, _, hS⟩
    obtain ⟨ao, cap, he, hown⟩ := hS _ _ comm_run
    generalize Value.slice ao ([[97]] : List (List UInt8)).length cap = v0 at he hown
    subst he
    have hx := tx_own hown
    have HB1 := Lib.hid hb1
    have CE := Lib.hid fun (vb : Value) W (h : Below w1.heap.size w1 W) (hb : Tx W vb [[97]]) => eq_texts _ _ _ vb W (hx.below h) hb (by decide) (by decide)
    clear hS hown hx hb1
    go_wp2_with fail
    refine (CE.out _ _ ((Below.refl _ _).alloc (Nat.le_refl _) _) (tx_alloc w1 [[97]] 1)).mono ?_
    rintro e w2 ⟨rfl, hb2⟩
    have hw2 := HB1.out.trans ((((Below.refl w1.heap.size w1).alloc (Nat.le_refl _) _).trans (hb2.mono (by simp))).mono HB1.out.size)
    clear hb2
    go_wp2_with (first | (go_at_call 15; refine (CA.out _).mono ?_; rintro e wx ⟨rfl, hwx⟩; obtain rfl := hwx.symm) | (go_at_call 15; refine (CB.out _).mono ?_; rintro e wx ⟨rfl, hwx⟩; obtain rfl := hwx.symm))
    refine (C1.out w2 _ rfl).mono ?_
    rintro e wx ⟨rfl, rfl⟩
    go_wp2_with fail
    go_ret
    exact ⟨rfl, by first | exact hw2 | exact hw2.alloc hw2.size _ | exact (hw2.alloc hw2.size _).alloc (by have := hw2.size; simp; omega) _⟩
  | true =>
  cases h2 : seenB [la] with
  | false =>
    rw [h1] at C1
    rw [h2] at C2
    clear h1 h2
    go_enter Tryd.func4, Tryd.ntmps4
    go_wp2_with fail
    refine C0.out.mono ?_
    rintro e w1 ⟨hb1, _, hS⟩
    obtain ⟨ao, cap, he, hown⟩ := hS _ _ comm_run
    generalize Value.slice ao ([[97]] : List (List UInt8)).length cap = v0 at he hown
    subst he
    have hx := tx_own hown
    have HB1 := Lib.hid hb1
    have CE := Lib.hid fun (vb : Value) W (h : Below w1.heap.size w1 W) (hb : Tx W vb [[97]]) => eq_texts _ _ _ vb W (hx.below h) hb (by decide) (by decide)
    clear hS hown hx hb1
    go_wp2_with fail
    refine (CE.out _ _ ((Below.refl _ _).alloc (Nat.le_refl _) _) (tx_alloc w1 [[97]] 1)).mono ?_
    rintro e w2 ⟨rfl, hb2⟩
    have hw2 := HB1.out.trans ((((Below.refl w1.heap.size w1).alloc (Nat.le_refl _) _).trans (hb2.mono (by simp))).mono HB1.out.size)
    clear hb2
    go_wp2_with (first | (go_at_call 15; refine (CA.out _).mono ?_; rintro e wx ⟨rfl, hwx⟩; obtain rfl := hwx.symm) | (go_at_call 15; refine (CB.out _).mono ?_; rintro e wx ⟨rfl, hwx⟩; obtain rfl := hwx.symm))
    refine (C1.out w2 _ rfl).mono ?_
    rintro e wx ⟨rfl, rfl⟩
    go_wp2_with fail
    refine (C2.out (w2.alloc (.cells #[.string (txt lb)] 9)) (w2.heap.size + 1) (by simp)).mono ?_
    rintro e wx ⟨rfl, rfl⟩
    go_wp2_with fail
    go_ret
    exact ⟨rfl, by first | exact hw2 | exact hw2.alloc hw2.size _ | exact (hw2.alloc hw2.size _).alloc (by have := hw2.size; simp; omega) _⟩
  | true =>
  cases h3 : la.any (· == 35) with
  | true =>
    rw [h1] at C1
    rw [h2] at C2
    rw [h3] at CH
    clear h1 h2 h3
    go_enter Tryd.func4, Tryd.ntmps4
    go_wp2_with fail
    refine C0.out.mono ?_
    rintro e w1 ⟨hb1, _, hS⟩
    obtain ⟨ao, cap, he, hown⟩ := hS _ _ comm_run
    generalize Value.slice ao ([[97]] : List (List UInt8)).length cap = v0 at he hown
    subst he
    have hx := tx_own hown
    have HB1 := Lib.hid hb1
    have CE := Lib.hid fun (vb : Value) W (h : Below w1.heap.size w1 W) (hb : Tx W vb [[97]]) => eq_texts _ _ _ vb W (hx.below h) hb (by decide) (by decide)
    clear hS hown hx hb1
    go_wp2_with fail
    refine (CE.out _ _ ((Below.refl _ _).alloc (Nat.le_refl _) _) (tx_alloc w1 [[97]] 1)).mono ?_
    rintro e w2 ⟨rfl, hb2⟩
    have hw2 := HB1.out.trans ((((Below.refl w1.heap.size w1).alloc (Nat.le_refl _) _).trans (hb2.mono (by simp))).mono HB1.out.size)
    clear hb2
    go_wp2_with (first | (go_at_call 15; refine (CA.out _).mono ?_; rintro e wx ⟨rfl, hwx⟩; obtain rfl := hwx.symm) | (go_at_call 15; refine (CB.out _).mono ?_; rintro e wx ⟨rfl, hwx⟩; obtain rfl := hwx.symm))
    refine (C1.out w2 _ rfl).mono ?_
    rintro e wx ⟨rfl, rfl⟩
    go_wp2_with fail
    refine (C2.out (w2.alloc (.cells #[.string (txt lb)] 9)) (w2.heap.size + 1) (by simp)).mono ?_
    rintro e wx ⟨rfl, rfl⟩
    go_wp2_with fail
    refine (CH.out _).mono ?_
    rintro e wx ⟨rfl, hwx⟩
    obtain rfl := hwx.symm
    go_wp2_with fail
    go_ret
    exact ⟨rfl, by first | exact hw2 | exact hw2.alloc hw2.size _ | exact (hw2.alloc hw2.size _).alloc (by have := hw2.size; simp; omega) _⟩
  | false =>
  rw [h1] at C1
  rw [h2] at C2
  rw [h3] at CH
  have hv1 := seen_vis h1
  have hv2 := seen_vis h2
  have h35 : ∀ r ∈ rns la, r ≠ 35 := by
    rw [rns_asc la (fun b hb => by have := hv2 b hb; omega)]
    intro r hr h
    obtain ⟨b, hb, rfl⟩ := List.mem_map.1 hr
    have hb35 : b = 35 := UInt8.toNat_inj.1 (by rw [h]; rfl)
    have := List.any_eq_false.1 h3 b hb
    simp [hb35] at this
  have hcm : ∀ b ∈ lb, b.toNat ≠ 10 ∧ b.toNat < 128 := fun b hb => by have := hv1 b hb; omega
  have HRun := Lib.hid fun x (hx : runS true [] Sx.start (rns la) = some (x, -1)) => comment_run la lb x hx h35 hcm
  have C3 := Lib.hid fun W => words_any true [] (fun _ h => by cases h) (by decide) la (by omega) W
  have C4 := Lib.hid fun W => words_any true [] (fun _ h => by cases h) (by decide) (la ++ 32 :: 35 :: lb) (by simp; omega) W
  rw [← cat_comm] at C4
  clear h1 h2 h3 hv1 hv2 h35 hcm
  go_enter Tryd.func4, Tryd.ntmps4
  go_wp2_with fail
  refine C0.out.mono ?_
  rintro e w1 ⟨hb1, _, hS⟩
  obtain ⟨ao, cap, he, hown⟩ := hS _ _ comm_run
  generalize Value.slice ao ([[97]] : List (List UInt8)).length cap = v0 at he hown
  subst he
  have hx := tx_own hown
  have HB1 := Lib.hid hb1
  have CE := Lib.hid fun (vb : Value) W (h : Below w1.heap.size w1 W) (hb : Tx W vb [[97]]) => eq_texts _ _ _ vb W (hx.below h) hb (by decide) (by decide)
  clear hS hown hx hb1
  go_wp2_with fail
  refine (CE.out _ _ ((Below.refl _ _).alloc (Nat.le_refl _) _) (tx_alloc w1 [[97]] 1)).mono ?_
  rintro e w2 ⟨rfl, hb2⟩
  have hw2 := HB1.out.trans ((((Below.refl w1.heap.size w1).alloc (Nat.le_refl _) _).trans (hb2.mono (by simp))).mono HB1.out.size)
  clear hb2
  go_wp2_with (first | (go_at_call 15; refine (CA.out _).mono ?_; rintro e wx ⟨rfl, hwx⟩; obtain rfl := hwx.symm) | (go_at_call 15; refine (CB.out _).mono ?_; rintro e wx ⟨rfl, hwx⟩; obtain rfl := hwx.symm))
  refine (C1.out w2 _ rfl).mono ?_
  rintro e wx ⟨rfl, rfl⟩
  go_wp2_with fail
  refine (C2.out (w2.alloc (.cells #[.string (txt lb)] 9)) (w2.heap.size + 1) (by simp)).mono ?_
  rintro e wx ⟨rfl, rfl⟩
  go_wp2_with fail
  refine (CH.out _).mono ?_
  rintro e wx ⟨rfl, hwx⟩
  obtain rfl := hwx.symm
  go_wp2_with fail
  have hw4 : Below w.heap.size w _ := (hw2.alloc hw2.size (.cells #[.string (txt lb)] 9)).alloc (by have := hw2.size; simp; omega) (.cells #[.string (txt la)] 9)
  refine (C3.out _ (HE.out.below hw4)).mono ?_
  rintro e w3 hp
  obtain ⟨v1, n1, ok1, rfl, hb3, ho1⟩ := hp.form
  have HO1 := Lib.hid ho1
  have hw5 := below_own hb3 hw4
  clear hp ho1 hb3 hw4 hw2
  by_cases hgo : ok1 = true ∧ n1 = -1
  · obtain ⟨rfl, rfl⟩ := hgo
    obtain ⟨x, hx, hox⟩ := HO1.out rfl
    have hz := HRun.out x hx
    have hxl := run_len hx
    have hr1 := rns_len la
    simp only [Sx.start, List.length_nil] at hxl
    have HX := Lib.hid (tx_own hox)
    have HW5 := Lib.hid hw5
    clear HO1 hx hox
    go_wp2_with fail
    refine (C4.out _ (HE.out.below hw5)).mono ?_
    rintro e w4 ⟨hb6, _, hS3⟩
    obtain ⟨ao, cap, he, hoz⟩ := hS3 _ _ hz
    generalize Value.slice ao x.length cap = vz at he hoz
    subst he
    have CQ := Lib.hid (eq_texts x x v1 vz w4 (HX.out.below hb6) (tx_own hoz) (by omega) (by omega))
    have HW6 := Lib.hid (below_own hb6 hw5)
    clear hS3 hoz hb6 hw5 hz
    go_wp2_with fail
    refine CQ.out.mono ?_
    rintro e w7 ⟨rfl, hb9⟩
    have HB9 := Lib.hid (below_own hb9 HW6.out)
    clear hb9
    go_wp2
    go_ret
    exact ⟨by simp, HB9.out⟩
  · have HW5 := Lib.hid hw5
    have hcase : ok1 = false ∨ (ok1 = true ∧ n1 ≠ -1) := by cases ok1 <;> simp_all
    clear hgo HO1 hw5
    rcases hcase with rfl | ⟨rfl, h1⟩
    case' inr => have e1 : (n1 != -1) = true := by simpa using h1
    all_goals
      go_wp2
      go_ret
      exact ⟨rfl, HW5.out⟩

end Go.Proofs.YthekblmkcfkboaaDoor
