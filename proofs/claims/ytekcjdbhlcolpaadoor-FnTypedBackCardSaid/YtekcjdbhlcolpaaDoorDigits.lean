/- Plain lemmas: decimal digits. No program is in sight. -/
import Derived.Test.YtekcjdbhlcolpaaDoorU8
namespace Go.Proofs.YtekcjdbhlcolpaaDoor

/-- The digits of a number, as characters. -/
def digs (n : Nat) : List Nat := if n < 10 then [48 + n] else digs (n / 10) ++ [48 + n % 10]
termination_by n
decreasing_by omega
def isD (l : List Nat) : Prop := ∀ x ∈ l, 48 ≤ x ∧ x ≤ 57
/-- The number that digits tell. -/
def val (l : List Nat) : Nat := l.foldl (fun a x => a * 10 + (x - 48)) 0
theorem val_nil : val [] = 0 := rfl
theorem val_snoc (l : List Nat) (x : Nat) : val (l ++ [x]) = val l * 10 + (x - 48) := by unfold val; rw [List.foldl_append]; rfl
theorem digs_small {n : Nat} (h : n < 10) : digs n = [48 + n] := by rw [digs, if_pos h]
theorem digs_big {n : Nat} (h : ¬ n < 10) : digs n = digs (n / 10) ++ [48 + n % 10] := by rw [digs, if_neg h]
theorem digs_isD (n : Nat) : isD (digs n) := by
  induction n using Nat.strongRecOn with
  | _ n ih =>
    by_cases h : n < 10
    · rw [digs_small h]; intro x hx; simp at hx; omega
    · rw [digs_big h]
      intro x hx
      rcases List.mem_append.1 hx with k | k
      · exact ih _ (by omega) x k
      · simp at k; omega
theorem val_digs (n : Nat) : val (digs n) = n := by
  induction n using Nat.strongRecOn with
  | _ n ih =>
    by_cases h : n < 10
    · rw [digs_small h]; unfold val; simp
    · rw [digs_big h, val_snoc, ih _ (by omega)]; omega
theorem digs_pos (n : Nat) : 1 ≤ (digs n).length := by
  by_cases h : n < 10
  · rw [digs_small h]; simp
  · rw [digs_big h]; simp
/-- A list of digits, from its end on. -/
theorem snoc_cases (l : List Nat) : l = [] ∨ ∃ p x, l = p ++ [x] := by
  rcases List.eq_nil_or_concat l with h | ⟨p, x, h⟩
  · exact .inl h
  · exact .inr ⟨p, x, by simpa using h⟩
theorem val_lt : ∀ (n : Nat) (l : List Nat), l.length = n → isD l → val l < 10 ^ n
  | 0, l, h, _ => by rw [List.eq_nil_of_length_eq_zero h, val_nil]; exact Nat.one_pos
  | n + 1, l, h, hd => by
    rcases snoc_cases l with e | ⟨p, x, rfl⟩
    · subst e; simp at h
    · have hp := val_lt n p (by simpa using h) (fun y hy => hd y (by simp [hy]))
      have hx := hd x (by simp)
      rw [val_snoc, Nat.pow_succ]
      omega
/-- Digits of one length that tell one number are one list. -/
theorem val_inj : ∀ (n : Nat) (a b : List Nat), a.length = n → b.length = n → isD a → isD b → val a = val b → a = b
  | 0, a, b, ha, hb, _, _, _ => by rw [List.eq_nil_of_length_eq_zero ha, List.eq_nil_of_length_eq_zero hb]
  | n + 1, a, b, ha, hb, da, db, h => by
    rcases snoc_cases a with e | ⟨p, x, rfl⟩
    · subst e; simp at ha
    rcases snoc_cases b with e | ⟨q, y, rfl⟩
    · subst e; simp at hb
    rw [val_snoc, val_snoc] at h
    have hx := da x (by simp)
    have hy := db y (by simp)
    have hpq : val p = val q := by omega
    have hxy : x = y := by omega
    rw [val_inj n p q (by simpa using ha) (by simpa using hb) (fun z hz => da z (by simp [hz])) (fun z hz => db z (by simp [hz])) hpq, hxy]
/-- A number has as many digits as its size wants. -/
theorem digs_len (n k : Nat) (h : n < 10 ^ k) (hk : 1 ≤ k) : (digs n).length ≤ k := by
  induction k generalizing n with
  | zero => omega
  | succ k ih =>
    by_cases hn : n < 10
    · rw [digs_small hn]; simp
    · rw [digs_big hn, List.length_append, List.length_singleton]
      have hk1 : 1 ≤ k := by
        cases k with
        | zero => simp at h; omega
        | succ k => omega
      have := ih (n / 10) (by rw [Nat.pow_succ] at h; omega) hk1
      omega
theorem digs_len_ge (n k : Nat) (h : 10 ^ k ≤ n) : k + 1 ≤ (digs n).length := by
  induction k generalizing n with
  | zero => exact digs_pos n
  | succ k ih =>
    have hp : 0 < 10 ^ k := Nat.pow_pos (by omega)
    rw [Nat.pow_succ] at h
    by_cases hn : n < 10
    · omega
    · rw [digs_big hn, List.length_append, List.length_singleton]
      have := ih (n / 10) (by omega)
      omega
theorem val_zeros (z : Nat) (l : List Nat) : val (List.replicate z 48 ++ l) = val l := by
  induction z with
  | zero => rfl
  | succ z ih =>
    rw [List.replicate_succ, List.cons_append]
    show val ([48] ++ (List.replicate z 48 ++ l)) = _
    unfold val at ih ⊢
    rw [List.foldl_append]
    exact ih
theorem val_appN : ∀ (n : Nat) (a b : List Nat), b.length = n → val (a ++ b) = val a * 10 ^ b.length + val b
  | 0, a, b, h => by rw [List.eq_nil_of_length_eq_zero h]; simp [val_nil]
  | n + 1, a, b, h => by
    rcases snoc_cases b with e | ⟨q, x, rfl⟩
    · subst e; simp at h
    · rw [← List.append_assoc, val_snoc, val_appN n a q (by simpa using h), val_snoc, List.length_append, List.length_singleton, Nat.pow_succ, Nat.add_mul, ← Nat.mul_assoc, Nat.add_assoc]
theorem val_app (a b : List Nat) : val (a ++ b) = val a * 10 ^ b.length + val b := val_appN _ a b rfl
theorem val_nines (k : Nat) : val (List.replicate k 57) + 1 = 10 ^ k := by
  induction k with
  | zero => rfl
  | succ k ih =>
    rw [List.replicate_succ', val_snoc, Nat.pow_succ]
    omega
/-- Where the nines at the end begin. -/
theorem nines_split (l : List Nat) (h : isD l) : (∃ k, l = List.replicate k 57) ∨ ∃ p x k, l = p ++ x :: List.replicate k 57 ∧ 48 ≤ x ∧ x ≤ 56 := by
  induction l with
  | nil => exact .inl ⟨0, rfl⟩
  | cons y l ih =>
    rcases ih (fun z hz => h z (by simp [hz])) with ⟨k, rfl⟩ | ⟨p, x, k, rfl, hx⟩
    · have hy := h y (by simp)
      by_cases hy9 : y = 57
      · exact .inl ⟨k + 1, by rw [hy9, List.replicate_succ]⟩
      · exact .inr ⟨[], y, k, rfl, by omega, by omega⟩
    · exact .inr ⟨y :: p, x, k, rfl, hx⟩
/-- THE LAW: the digits behind a padded number, padded to as many. -/
theorem next_carry (p : List Nat) (x k n z : Nat) (hx : 48 ≤ x ∧ x ≤ 56) (hD : isD (p ++ x :: List.replicate k 57)) (hS : List.replicate z 48 ++ digs n = p ++ x :: List.replicate k 57) :
    p ++ (x + 1) :: List.replicate k 48 = List.replicate ((p ++ x :: List.replicate k 57).length - (digs (n + 1)).length) 48 ++ digs (n + 1) := by
  have hv : val (p ++ x :: List.replicate k 57) = n := by rw [← hS, val_zeros, val_digs]
  have e1 : p ++ x :: List.replicate k 57 = (p ++ [x]) ++ List.replicate k 57 := by simp
  have e2 : p ++ (x + 1) :: List.replicate k 48 = (p ++ [x + 1]) ++ List.replicate k 48 := by simp
  have h0 : val (List.replicate k 48) = 0 := by have := val_zeros k []; simpa [val_nil] using this
  have h9 := val_nines k
  have hv2 : val (p ++ (x + 1) :: List.replicate k 48) = n + 1 := by
    rw [e1, val_app, val_snoc, List.length_replicate] at hv
    rw [e2, val_app, val_snoc, List.length_replicate, h0]
    have : x + 1 - 48 = (x - 48) + 1 := by omega
    rw [this, ← Nat.add_assoc, Nat.add_mul, Nat.one_mul, ← h9, Nat.add_zero]
    rw [← h9] at hv
    omega
  have hD2 : isD (p ++ (x + 1) :: List.replicate k 48) := fun y hy => by
    rcases List.mem_append.1 hy with h | h
    · exact hD y (by simp [h])
    · rcases List.mem_cons.1 h with h | h
      · omega
      · have := (List.mem_replicate.1 h).2; omega
  have hlen : (p ++ (x + 1) :: List.replicate k 48).length = (p ++ x :: List.replicate k 57).length := by simp
  have hlt := val_lt _ _ rfl hD2
  rw [hv2, hlen] at hlt
  have hdl := digs_len (n + 1) _ hlt (by simp; omega)
  refine val_inj (p ++ x :: List.replicate k 57).length _ _ hlen ?_ hD2 ?_ ?_
  · rw [List.length_append, List.length_replicate]; omega
  · intro y hy
    rcases List.mem_append.1 hy with h | h
    · have := (List.mem_replicate.1 h).2; omega
    · exact digs_isD _ y h
  · rw [hv2, val_zeros, val_digs]
theorem next_nines (k n z : Nat) (hk : 1 ≤ k) (hS : List.replicate z 48 ++ digs n = List.replicate k 57) :
    49 :: List.replicate k 48 = digs (n + 1) ∧ k ≤ (digs (n + 1)).length := by
  have hv : val (List.replicate k 57) = n := by rw [← hS, val_zeros, val_digs]
  have h9 := val_nines k
  have hn : n + 1 = 10 ^ k := by omega
  have hl1 := digs_len_ge (n + 1) k (by omega)
  have hl2 := digs_len (n + 1) (k + 1) (by rw [hn, Nat.pow_succ]; have : 0 < 10 ^ k := Nat.pow_pos (by omega); omega) (by omega)
  have h0 : val (List.replicate k 48) = 0 := by have := val_zeros k []; simpa [val_nil] using this
  refine ⟨val_inj (k + 1) _ _ (by simp) (by omega) ?_ (digs_isD _) ?_, by omega⟩
  · intro y hy
    rcases List.mem_cons.1 hy with h | h
    · omega
    · have := (List.mem_replicate.1 h).2; omega
  · rw [val_digs]
    have : val ([49] ++ List.replicate k 48) = n + 1 := by
      rw [val_app, List.length_replicate, h0, hn]
      show (0 * 10 + (49 - 48)) * 10 ^ k + 0 = 10 ^ k
      omega
    exact this

end Go.Proofs.YtekcjdbhlcolpaaDoor
