/- The small functions on which the laws of cases stand: size, few, told, swapped, separated. -/
import Derived.Test.YtplillcmgahapaaDoorCAscii
namespace Go.Proofs.YtplillcmgahapaaDoor
open Go.RowKit U8
open Go.Lib hiding intOf

def sizes (l : List ByteArray) : Nat := (l.map ByteArray.size).sum
theorem sizes_cons (s : ByteArray) (l : List ByteArray) : sizes (s :: l) = s.size + sizes l := by simp [sizes]
theorem sizes_snoc (l : List ByteArray) (s : ByteArray) : sizes (l ++ [s]) = sizes l + s.size := by simp [sizes]

set_option maxHeartbeats 800000 in
theorem size_any (l : List ByteArray) (g c : Nat) (w : World) (hc : ∀ j s, l[j]? = some s → w.cell? ⟨g, j, none⟩ = some (.string s)) (hl : l.length + sizes l ≤ 1000000000000) :
    Calls Tryd.prog 36 #[.slice (some ⟨g, 0, none⟩) l.length c] w fun e w' => e = .returned (.int .i64 ((l.length + sizes l : Nat) : Int)) ∧ w' = w := by
  have HC := Lib.hid hc
  clear hc
  go_enter Tryd.func36, Tryd.ntmps36
  go_wp2
  go_loopg [10, 3] (l.length + 1) (fun gk i n wr => ∃ p rest : List ByteArray, Hid (l = p ++ rest) ∧ i = .int .i64 p.length ∧ n = .int .i64 ((l.length + sizes p : Nat) : Int) ∧ rest.length < gk ∧ wr = w)
  case atStart => exact ⟨[], l, rfl, rfl, rfl, by omega, rfl⟩
  case round =>
    obtain ⟨p, rest, HT, rfl, rfl, hg, rfl⟩ := hrel
    have hpl : p.length + rest.length = l.length := by have h := congrArg List.length HT.out; rw [List.length_append] at h; omega
    cases rest with
    | nil =>
      rw [List.length_nil] at hpl
      go_wp2
      go_ret
      have e := HT.out
      rw [List.append_nil] at e
      exact ⟨by rw [e]; rfl, rfl⟩
    | cons s rest =>
      rw [List.length_cons] at hpl hg
      have hcell := HC.out p.length s (by rw [HT.out, List.getElem?_append_right (Nat.le_refl _), Nat.sub_self]; rfl)
      have hsz : sizes p + s.size ≤ sizes l := by rw [HT.out]; simp [sizes]
      obtain ⟨gk, rfl⟩ : ∃ m, gk = m + 1 := ⟨gk - 1, by omega⟩
      go_wp2
      go_roundg gk
      case rel => exact ⟨p ++ [s], rest, by show _ = _; rw [HT.out]; simp, by rw [List.length_append]; go_num, by rw [sizes_snoc]; go_num, by omega, rfl⟩
      case measure => omega
theorem few_any (l : List ByteArray) (g c : Nat) (w : World) (hc : ∀ j s, l[j]? = some s → w.cell? ⟨g, j, none⟩ = some (.string s)) (hl : l.length + sizes l ≤ 1000000000000) :
    Calls Tryd.prog 15 #[.slice (some ⟨g, 0, none⟩) l.length c] w fun e w' => e = .returned (.bool (decide (l.length + sizes l ≤ 400))) ∧ w' = w := by
  have C := Lib.hid (size_any l g c w hc hl)
  obtain ⟨n, hn⟩ : ∃ n, l.length + sizes l = n := ⟨_, rfl⟩
  rw [hn] at C ⊢
  clear hn hc hl
  go_enter Tryd.func15, Tryd.ntmps15
  go_wp2_with (go_at_call 36; refine C.out.mono ?_; rintro e w1 ⟨rfl, rfl⟩)
  go_ret
  exact ⟨ret_bool (decide_eq_decide.2 (by omega)), rfl⟩
/-- few at one text, and at two. -/
theorem few1 (s : ByteArray) (b : Bool) (w : World) (hs : s.size ≤ 2147483647) (hb : decide (1 + s.size ≤ 400) = b) :
    Calls Tryd.prog 15 #[.slice (some ⟨w.heap.size, 0, none⟩) 1 1] (w.alloc (.cells #[.string s] 9)) fun e w' => e = .returned (.bool b) ∧ Below w.heap.size w w' := by
  subst hb
  refine (few_any [s] w.heap.size 1 _ ?_ (by simp [sizes]; omega)).mono ?_
  · intro j x hj
    match j, hj with
    | 0, hj => simp at hj; subst hj; simp
  · rintro e w' ⟨rfl, rfl⟩
    exact ⟨by simp [sizes], (Below.refl _ _).alloc (Nat.le_refl _) _⟩
theorem few2 (s t : ByteArray) (b : Bool) (w : World) (hs : s.size ≤ 2147483647) (ht : t.size ≤ 2147483647) (hb : decide (2 + (s.size + t.size) ≤ 400) = b) :
    Calls Tryd.prog 15 #[.slice (some ⟨w.heap.size, 0, none⟩) 2 2] (w.alloc (.cells #[.string s, .string t] 9)) fun e w' => e = .returned (.bool b) ∧ Below w.heap.size w w' := by
  subst hb
  refine (few_any [s, t] w.heap.size 2 _ ?_ (by simp [sizes]; omega)).mono ?_
  · intro j x hj
    match j, hj with
    | 0, hj => simp at hj; subst hj; simp
    | 1, hj => simp at hj; subst hj; simp
  · rintro e w' ⟨rfl, rfl⟩
    exact ⟨by simp [sizes], (Below.refl _ _).alloc (Nat.le_refl _) _⟩

def swpB (f t b : UInt8) : UInt8 := if b = f then t else b
set_option maxHeartbeats 800000 in
set_option maxRecDepth 100000 in
theorem swapped_any (l : List UInt8) (f t : UInt8) (w : World) (hl : l.length ≤ 1000000) :
    Calls Tryd.prog 13 #[.string (txt l), .int .u8 f.toNat, .int .u8 t.toNat] w fun e w' => e = .returned (.string (txt (l.map (swpB f t)))) ∧ Below w.heap.size w w' := by
  have hcv := fun W => run_text_bytes W (txt l)
  have hll := txt_size l
  obtain ⟨F, hF⟩ : ∃ F, f.toNat = F := ⟨_, rfl⟩
  obtain ⟨T, hT⟩ : ∃ T, t.toNat = T := ⟨_, rfl⟩
  rw [hF, hT]
  have HF0 := Lib.hid hF
  have HT0 := Lib.hid hT
  clear hF hT
  go_enter Tryd.func13, Tryd.ntmps13
  go_wp2
  have hb0 : Below w.heap.size w (bytesWorld w 5 (txt l)) := bytesWorld_below (Below.refl _ _) (Nat.le_refl _) _ _
  have hc0 : ∀ j, j < l.length → (bytesWorld w 5 (txt l)).cell? ⟨w.heap.size, j, none⟩ = (byteCells l)[j]? := fun j hj => by
    rw [bytesWorld_cell w _ (txt l) j (by rw [txt_size]; exact hj), byteCells_get, txt_list, List.getElem?_eq_getElem hj]
    simp [List.getD, List.getElem?_eq_getElem hj]
  have hf0 : ∀ j, j < l.length → (bytesWorld w 5 (txt l)).frozen? ⟨w.heap.size, j, none⟩ = false := fun j hj => row_frozen w (txt l) j (by rw [txt_size]; exact hj)
  have HC := Lib.hid hc0
  have HF := Lib.hid hf0
  clear hc0 hf0
  generalize bytesWorld w 5 (txt l) = wb at *
  generalize grownCap w l.length 0 5 = cap at *
  go_loopg [13] (l.length + 1) (fun gk i wr => ∃ k : Nat, k ≤ l.length ∧ i = .int .i64 k ∧ Hid (∀ j, j < l.length → wr.cell? ⟨w.heap.size, j, none⟩ = (byteCells ((l.take k).map (swpB f t) ++ l.drop k))[j]?) ∧ Hid (∀ j, j < l.length → wr.frozen? ⟨w.heap.size, j, none⟩ = false) ∧ l.length - k < gk ∧ Below w.heap.size w wr)
  case atStart => exact ⟨0, by omega, rfl, by show ∀ j, j < l.length → _; simpa using HC.out, HF.out, by omega, hb0⟩
  case round =>
    obtain ⟨k, hk, rfl, hc, hf, hg, hb⟩ := hrel
    by_cases hkl : k < l.length
    · obtain ⟨b, hbk⟩ : ∃ b, l[k]? = some b := ⟨l[k], List.getElem?_eq_getElem hkl⟩
      have hck : wr.cell? ⟨w.heap.size, k, none⟩ = some (.int .u8 b.toNat) := by
        rw [hc.out k hkl, byteCells_get, List.getElem?_append_right (by simp; omega)]
        simp [Nat.min_eq_left hk, hbk]
      have hfk := hf.out k hkl
      have HB := Lib.hid hbk
      clear hbk
      obtain ⟨gk, rfl⟩ : ∃ m, gk = m + 1 := ⟨gk - 1, by omega⟩
      obtain ⟨x, hx⟩ : ∃ x, b.toNat = x := ⟨_, rfl⟩
      rw [hx] at hck
      have HX := Lib.hid hx
      clear hx
      have HADV := Lib.hid (adv_set (swpB f t) l k b HB.out)
      have hlen : ((l.take k).map (swpB f t) ++ l.drop k).length = l.length := by simp; omega
      have HLEN := Lib.hid hlen
      clear hlen
      by_cases hx1 : x = F
      · have hub : Hid (swpB f t b = t) := by show _ = _; unfold swpB; rw [if_pos (UInt8.toNat_inj.1 (by rw [HX.out, HF0.out, hx1]))]
        have hxe : ((x : Int) == (F : Int)) = true := by simp [hx1]
        clear hx1
        go_wp2
        go_roundg gk
        case rel =>
          refine ⟨k + 1, by omega, by go_num, ?_, ?_, by omega, hb.setCell (p := ⟨w.heap.size, k, none⟩) (Nat.le_refl _) _⟩
          · show ∀ j, j < l.length → _
            intro j hj
            rw [HADV.out, cells_set _ _ _ _ (by rw [HLEN.out]; exact hj)]
            by_cases h : k = j
            · rw [if_pos h, ← h, World.cell?_setCell_same _ _ _ hck, hub.out, HT0.out]
            · rw [if_neg h, World.cell?_setCell_other _ _ _ _ (fun e => h (congrArg Addr.off e))]
              exact hc.out j hj
          · show ∀ j, j < l.length → _
            intro j hj
            rw [World.frozen?_setCell]; exact hf.out j hj
        case measure => omega
      · have hub : Hid (swpB f t b = b) := by
          show _ = _
          unfold swpB
          rw [if_neg (fun e => hx1 (by rw [← HX.out, ← HF0.out, e]))]
        have hxe : ((x : Int) == (F : Int)) = false := by simp; omega
        clear hx1
        go_wp2
        go_roundg gk
        case rel =>
          refine ⟨k + 1, by omega, by go_num, ?_, hf, by omega, hb⟩
          show ∀ j, j < l.length → _
          intro j hj
          rw [hc.out j hj, HADV.out, cells_set _ _ _ _ (by rw [HLEN.out]; exact hj), hub.out]
          by_cases h : k = j
          · rw [if_pos h, ← h, ← hc.out k hkl, hck, HX.out]
          · rw [if_neg h]
        case measure => omega
    · obtain rfl : k = l.length := by omega
      have hcv2 : (convert 39 9 (.slice (some ⟨w.heap.size, 0, none⟩) l.length cap)).run Tryd.prog wr = .ok (.string (txt (l.map (swpB f t)))) wr := by
        refine run_bytes_text (l.map (swpB f t)) (by simp) fun j hj => ?_
        rw [hc.out j hj, List.take_length, List.drop_length, List.append_nil]
      go_wp2
      go_ret
      exact ⟨rfl, hb⟩

/-- A letter of ASCII. -/
theorem letter_any (x : Nat) (w : World) (hx : x < 256) :
    Calls Tryd.prog 12 #[.int .u8 x] w fun e w' => e = .returned (.bool (decide ((97 ≤ x ∧ x ≤ 122) ∨ (65 ≤ x ∧ x ≤ 90)))) ∧ w' = w := by
  obtain ⟨B, hB⟩ : ∃ B, decide ((97 ≤ x ∧ x ≤ 122) ∨ (65 ≤ x ∧ x ≤ 90)) = B := ⟨_, rfl⟩
  rw [hB]
  have HB := Lib.hid hB
  clear hB
  rcases (show x < 65 ∨ (65 ≤ x ∧ x ≤ 90) ∨ (90 < x ∧ x < 97) ∨ (97 ≤ x ∧ x ≤ 122) ∨ 122 < x by omega) with h | h | h | h | h
  all_goals
    go_enter Tryd.func12, Tryd.ntmps12
    go_wp2
    go_ret
    refine ⟨ret_bool ?_, rfl⟩
    rw [← HB.out]
    first
      | exact (decide_eq_true (by omega)).symm
      | exact (decide_eq_false (by omega)).symm
      | exact decide_eq_decide.2 (by omega)
      | (rw [Bool.eq_iff_iff]; simp only [Bool.or_eq_true, decide_eq_true_eq]; omega)

end Go.Proofs.YtplillcmgahapaaDoor
