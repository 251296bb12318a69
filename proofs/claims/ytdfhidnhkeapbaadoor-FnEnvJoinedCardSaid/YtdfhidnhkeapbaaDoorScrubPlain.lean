/- Plain lemmas: a text whose broken bytes, and characters U+FFFD, are replaced, a run of them once. No program is in sight. -/
import Derived.Test.YtdfhidnhkeapbaaDoorU8
namespace Go.Proofs.YtdfhidnhkeapbaaDoor.U8
open Go.Lib

/-- A text that is not empty: what is decoded first, and the rest. -/
theorem first_part (l : List UInt8) (hne : l ≠ []) : ∃ (a rest : List UInt8) (r : Nat), l = a ++ rest ∧ a ≠ [] ∧ decodeL (a ++ rest) = (r, a.length) ∧ Sc r ∧ (r ≠ 65533 → a = enc1 r) := by
  have hw := decodeL_width l
  have hle := decodeL_le l hne
  have hl : 0 < l.length := List.length_pos_iff.2 hne
  have hlen : (l.take (decodeL l).2).length = (decodeL l).2 := by rw [List.length_take, Nat.min_eq_left hle]
  refine ⟨l.take (decodeL l).2, l.drop (decodeL l).2, (decodeL l).1, (List.take_append_drop _ _).symm, ?_, ?_, decode_sc l, ?_⟩
  · intro h
    have := congrArg List.length h
    rw [hlen] at this
    simp at this
    omega
  · rw [List.take_append_drop, hlen]
  · intro hr
    have := encode_decode l hne (fun h => hr h.1)
    unfold enc1
    exact this.symm

def scrF (repl : List UInt8) : Nat → Bool → List UInt8 → List UInt8
  | 0, _, _ => []
  | n + 1, bad, l => if l = [] then [] else if (decodeL l).1 = 65533 then (if bad then [] else repl) ++ scrF repl n true (l.drop (decodeL l).2) else l.take (decodeL l).2 ++ scrF repl n false (l.drop (decodeL l).2)
def scr (repl : List UInt8) (bad : Bool) (l : List UInt8) : List UInt8 := scrF repl l.length bad l
theorem scrF_nil (repl : List UInt8) (n : Nat) (bad : Bool) : scrF repl n bad [] = [] := by cases n <;> simp [scrF]
theorem scr_nil (repl : List UInt8) (bad : Bool) : scr repl bad [] = [] := rfl
theorem scrF_fuel (repl : List UInt8) : ∀ (n m : Nat) (bad : Bool) (l : List UInt8), l.length ≤ n → l.length ≤ m → scrF repl n bad l = scrF repl m bad l
  | 0, m, bad, l, hn, _ => by
    have : l = [] := List.eq_nil_of_length_eq_zero (by omega)
    subst this
    rw [scrF_nil, scrF_nil]
  | n + 1, 0, bad, l, _, hm => by
    have : l = [] := List.eq_nil_of_length_eq_zero (by omega)
    subst this
    rw [scrF_nil, scrF_nil]
  | n + 1, m + 1, bad, l, hn, hm => by
    unfold scrF
    by_cases hne : l = []
    · simp [hne]
    · have hw := decodeL_width l
      have hl : 0 < l.length := List.length_pos_iff.2 hne
      have hd : (l.drop (decodeL l).2).length ≤ n := by rw [List.length_drop]; omega
      have hd2 : (l.drop (decodeL l).2).length ≤ m := by rw [List.length_drop]; omega
      rw [if_neg hne, if_neg hne, scrF_fuel repl n m true _ hd hd2, scrF_fuel repl n m false _ hd hd2]
theorem scr_bad (repl a rest : List UInt8) (bad : Bool) (ha : a ≠ []) (hd : decodeL (a ++ rest) = (65533, a.length)) : scr repl bad (a ++ rest) = (if bad then [] else repl) ++ scr repl true rest := by
  have hl : 0 < a.length := List.length_pos_iff.2 ha
  obtain ⟨n, hn⟩ : ∃ n, (a ++ rest).length = n + 1 := ⟨(a ++ rest).length - 1, by rw [List.length_append]; omega⟩
  have e : scr repl bad (a ++ rest) = scrF repl (n + 1) bad (a ++ rest) := by unfold scr; rw [hn]
  rw [e, scrF, if_neg (by simp [ha]), hd, if_pos rfl, List.drop_left, scrF_fuel repl n rest.length true rest (by rw [List.length_append] at hn; omega) (Nat.le_refl _)]
  rfl
theorem scr_ok (repl a rest : List UInt8) (bad : Bool) (r : Nat) (ha : a ≠ []) (hr : r ≠ 65533) (hd : decodeL (a ++ rest) = (r, a.length)) : scr repl bad (a ++ rest) = a ++ scr repl false rest := by
  have hl : 0 < a.length := List.length_pos_iff.2 ha
  obtain ⟨n, hn⟩ : ∃ n, (a ++ rest).length = n + 1 := ⟨(a ++ rest).length - 1, by rw [List.length_append]; omega⟩
  have e : scr repl bad (a ++ rest) = scrF repl (n + 1) bad (a ++ rest) := by unfold scr; rw [hn]
  rw [e, scrF, if_neg (by simp [ha]), hd, if_neg hr, List.drop_left, List.take_left, scrF_fuel repl n rest.length false rest (by rw [List.length_append] at hn; omega) (Nat.le_refl _)]
  rfl
theorem scr_len (repl : List UInt8) (n : Nat) : ∀ (bad : Bool) (l : List UInt8), l.length ≤ n → (scr repl bad l).length ≤ l.length * (repl.length + 1) := by
  induction n with
  | zero =>
    intro bad l hl
    have : l = [] := List.eq_nil_of_length_eq_zero (by omega)
    subst this
    simp [scr_nil]
  | succ n ih =>
    intro bad l hl
    by_cases hne : l = []
    · subst hne; simp [scr_nil]
    · obtain ⟨a, rest, r, rfl, ha, hd, _, _⟩ := first_part l hne
      have h1 : 0 < a.length := List.length_pos_iff.2 ha
      rw [List.length_append] at hl
      have hm : a.length * (repl.length + 1) = a.length * repl.length + a.length := Nat.mul_succ _ _
      have hge : repl.length ≤ a.length * repl.length := Nat.le_mul_of_pos_left _ h1
      by_cases hr : r = 65533
      · subst hr
        have := ih true rest (by omega)
        rw [scr_bad repl a rest bad ha hd, List.length_append, List.length_append, Nat.add_mul]
        have h2 : (if bad = true then ([] : List UInt8) else repl).length ≤ repl.length := by cases bad <;> simp
        omega
      · have := ih false rest (by omega)
        rw [scr_ok repl a rest bad r ha hr hd, List.length_append, List.length_append, Nat.add_mul]
        omega

end Go.Proofs.YtdfhidnhkeapbaaDoor.U8
