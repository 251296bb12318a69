/- Plain lemmas: a text as the pieces that a range over it finds: bytes, and the character that they are read as. No program is in sight. -/
import Derived.Test.YtdfhidnhkeapbaaDoorScrubPlain
namespace Go.Proofs.YtdfhidnhkeapbaaDoor.U8
open Go.Lib

def pcsF : Nat → List UInt8 → List (List UInt8 × Nat)
  | 0, _ => []
  | n + 1, l => if l = [] then [] else (l.take (decodeL l).2, (decodeL l).1) :: pcsF n (l.drop (decodeL l).2)
def pcs (l : List UInt8) : List (List UInt8 × Nat) := pcsF l.length l
theorem pcsF_nil (n : Nat) : pcsF n [] = [] := by cases n <;> simp [pcsF]
theorem pcs_nil : pcs [] = [] := rfl
theorem pcsF_fuel : ∀ (n m : Nat) (l : List UInt8), l.length ≤ n → l.length ≤ m → pcsF n l = pcsF m l
  | 0, m, l, hn, _ => by
    have : l = [] := List.eq_nil_of_length_eq_zero (by omega)
    subst this
    rw [pcsF_nil, pcsF_nil]
  | n + 1, 0, l, _, hm => by
    have : l = [] := List.eq_nil_of_length_eq_zero (by omega)
    subst this
    rw [pcsF_nil, pcsF_nil]
  | n + 1, m + 1, l, hn, hm => by
    unfold pcsF
    by_cases hne : l = []
    · simp [hne]
    · have hw := decodeL_width l
      have hl : 0 < l.length := List.length_pos_iff.2 hne
      rw [if_neg hne, if_neg hne, pcsF_fuel n m _ (by rw [List.length_drop]; omega) (by rw [List.length_drop]; omega)]
theorem pcs_cons (a rest : List UInt8) (r : Nat) (ha : a ≠ []) (hd : decodeL (a ++ rest) = (r, a.length)) : pcs (a ++ rest) = (a, r) :: pcs rest := by
  have hl : 0 < a.length := List.length_pos_iff.2 ha
  obtain ⟨n, hn⟩ : ∃ n, (a ++ rest).length = n + 1 := ⟨(a ++ rest).length - 1, by rw [List.length_append]; omega⟩
  have e : pcs (a ++ rest) = pcsF (n + 1) (a ++ rest) := by unfold pcs; rw [hn]
  rw [e, pcsF, if_neg (by simp [ha]), hd, List.drop_left, List.take_left, pcsF_fuel n rest.length rest (by rw [List.length_append] at hn; omega) (Nat.le_refl _)]
  rfl
/-- The characters that a range over a text tells. -/
def rns (l : List UInt8) : List Nat := (pcs l).map Prod.snd
theorem rns_nil : rns [] = [] := rfl
theorem rns_cons (a rest : List UInt8) (r : Nat) (ha : a ≠ []) (hd : decodeL (a ++ rest) = (r, a.length)) : rns (a ++ rest) = r :: rns rest := by
  unfold rns
  rw [pcs_cons a rest r ha hd]; rfl
theorem rns_enc : ∀ rs : List Nat, Scs rs → rns (enc rs) = rs
  | [], _ => rfl
  | r :: rs, h => by
    rw [enc_cons, rns_cons (enc1 r) (enc rs) r (enc1_ne r) (decode_enc r rs h.head), rns_enc rs h.tail]
/-- Is a character among those of a text? -/
def hasR (l : List UInt8) (r : Nat) : Bool := (rns l).any (· == r)
theorem hasR_nil (r : Nat) : hasR [] r = false := rfl
theorem hasR_cons (a rest : List UInt8) (r x : Nat) (ha : a ≠ []) (hd : decodeL (a ++ rest) = (r, a.length)) : hasR (a ++ rest) x = (r == x || hasR rest x) := by
  unfold hasR
  rw [rns_cons a rest r ha hd]; rfl

end Go.Proofs.YtdfhidnhkeapbaaDoor.U8
