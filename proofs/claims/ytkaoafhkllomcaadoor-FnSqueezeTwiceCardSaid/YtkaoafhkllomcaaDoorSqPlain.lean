/- Plain lemmas: characters that are the same as the one ahead are left out. No program is in sight. -/
import Derived.Test.YtkaoafhkllomcaaDoorU8
namespace Go.Proofs.YtkaoafhkllomcaaDoor.U8
open Go.Lib

def sq : Option Nat → List Nat → List Nat
  | _, [] => []
  | o, r :: rs => if o = some r then sq o rs else r :: sq (some r) rs
theorem sq_same (r : Nat) (rs : List Nat) : sq (some r) (r :: rs) = sq (some r) rs := by rw [sq, if_pos rfl]
theorem sq_new (o : Option Nat) (r : Nat) (rs : List Nat) (h : o ≠ some r) : sq o (r :: rs) = r :: sq (some r) rs := by rw [sq, if_neg h]
theorem sq_scs : ∀ (o : Option Nat) (rs : List Nat), Scs rs → Scs (sq o rs)
  | _, [], h => h
  | o, r :: rs, h => by
    rw [sq]
    split
    · exact sq_scs o rs h.tail
    · exact Scs.cons h.head (sq_scs (some r) rs h.tail)
theorem sq_len : ∀ (o : Option Nat) (rs : List Nat), (enc (sq o rs)).length ≤ (enc rs).length
  | _, [] => Nat.le_refl _
  | o, r :: rs => by
    rw [sq]
    split
    · have := sq_len o rs
      rw [enc_cons, List.length_append]; omega
    · have := sq_len (some r) rs
      rw [enc_cons, enc_cons, List.length_append, List.length_append]; omega
/-- No two alike beside each other, and the first one is not o. -/
def Apart : Option Nat → List Nat → Prop
  | _, [] => True
  | o, r :: rs => o ≠ some r ∧ Apart (some r) rs
theorem sq_apart : ∀ (o : Option Nat) (rs : List Nat), Apart o (sq o rs)
  | _, [] => trivial
  | o, r :: rs => by
    rw [sq]
    split
    · exact sq_apart o rs
    · rename_i h
      exact ⟨h, sq_apart (some r) rs⟩
theorem sq_of_apart : ∀ (o : Option Nat) (rs : List Nat), Apart o rs → sq o rs = rs
  | _, [], _ => rfl
  | o, r :: rs, h => by rw [sq, if_neg h.1, sq_of_apart (some r) rs h.2]
theorem sq_twice (rs : List Nat) : sq none (sq none rs) = sq none rs := sq_of_apart _ _ (sq_apart _ _)
theorem apart_at : ∀ (o : Option Nat) (rs : List Nat), Apart o rs → ∀ (k : Nat) (a b : Nat), rs[k]? = some a → rs[k + 1]? = some b → a ≠ b
  | _, [], _, k, a, b, h, _ => by simp at h
  | o, r :: rs, hA, 0, a, b, h, h2 => by
    simp at h h2
    subst h
    cases rs with
    | nil => simp at h2
    | cons q rs =>
      simp at h2
      subst h2
      exact fun e => hA.2.1 (congrArg some e)
  | o, r :: rs, hA, k + 1, a, b, h, h2 => apart_at (some r) rs hA.2 k a b (by simpa using h) (by simpa using h2)

/-- The last one of a list, or o. -/
def lastO (o : Option Nat) (l : List Nat) : Option Nat := if l = [] then o else l.getLast?
theorem sq_snoc : ∀ (o : Option Nat) (rs : List Nat) (r : Nat), sq o (rs ++ [r]) = sq o rs ++ (if lastO o rs = some r then [] else [r])
  | o, [], r => by
    rw [List.nil_append, sq, sq, List.nil_append, lastO, if_pos rfl]
    split
    · rfl
    · rw [sq]
  | o, q :: rs, r => by
    have hl : lastO o (q :: rs) = lastO (some q) rs := by
      unfold lastO
      rw [if_neg (by simp)]
      cases rs with
      | nil => simp
      | cons x xs => rw [if_neg (by simp)]; simp
    rw [List.cons_append, sq, sq, hl]
    split
    · rename_i h
      rw [h]
      exact sq_snoc (some q) rs r
    · rw [sq_snoc (some q) rs r]; rfl
/-- What is kept of a list that is kept in front. -/
theorem sq_rev_aux : ∀ (rs : List Nat), (sq none rs.reverse).reverse = sq none rs
  | [] => rfl
  | r :: rs => by
    rw [List.reverse_cons, sq_snoc, List.reverse_append, sq_rev_aux rs]
    have hl : lastO none rs.reverse = rs.head? := by
      unfold lastO
      cases rs with
      | nil => rfl
      | cons q rs => rw [if_neg (by simp)]; simp
    rw [hl, sq_new none r rs (by simp)]
    cases rs with
    | nil => simp [sq]
    | cons q rs =>
      by_cases h : r = q
      · subst h
        rw [List.head?_cons, if_pos rfl, List.reverse_nil, List.nil_append, sq_same, sq_new none r rs (by simp)]
      · rw [List.head?_cons, if_neg (fun e => h (Option.some.inj e).symm), sq_new none q rs (by simp), sq_new (some r) q rs (fun e => h (Option.some.inj e))]
        rfl
theorem enc1_inj {a b : Nat} (ha : Sc a) (hb : Sc b) (h : enc1 a = enc1 b) : a = b := by
  have := enc_inj [a] [b] (Scs.cons ha Scs.nil) (Scs.cons hb Scs.nil) (by rw [enc_one, enc_one, h])
  simpa using this

end Go.Proofs.YtkaoafhkllomcaaDoor.U8
