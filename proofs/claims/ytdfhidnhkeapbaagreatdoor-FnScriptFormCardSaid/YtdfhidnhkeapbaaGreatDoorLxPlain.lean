/- Plain: the lexer of a text of properties, over characters. No program is in sight. -/
import Derived.Test.YtdfhidnhkeapbaaGreatDoorPcs
namespace Go.Proofs.YtdfhidnhkeapbaaGreatDoor.U8
open Go.Lib

def wsR (r : Nat) : Bool := r == 32 || r == 12 || r == 9
def eolR (r : Nat) : Bool := r == 10 || r == 13
def cmtR (r : Nat) : Bool := r == 35 || r == 33
def endR (r : Nat) : Bool := r == 32 || r == 12 || r == 9 || r == 13 || r == 10 || r == 58 || r == 61
def escR (r : Nat) : Bool := r == 32 || r == 58 || r == 61 || r == 102 || r == 110 || r == 114 || r == 116
def hexR (r : Nat) : Bool := decide (48 ≤ r ∧ r ≤ 57) || decide (97 ≤ r ∧ r ≤ 102) || decide (65 ≤ r ∧ r ≤ 70)
def hexV (r : Nat) : Nat := if r ≤ 57 then r - 48 else if r ≤ 70 then r - 55 else r - 87
def decR (r : Nat) : Nat := if r = 102 then 12 else if r = 110 then 10 else if r = 114 then 13 else if r = 116 then 9 else r
def dropWs (rs : List Nat) : List Nat := rs.dropWhile wsR
def hex4 : List Nat → Option (Nat × List Nat)
  | a :: b :: c :: d :: t => if hexR a && hexR b && hexR c && hexR d then some (((hexV a * 16 + hexV b) * 16 + hexV c) * 16 + hexV d, t) else none
  | _ => none
def escS : List Nat → Option (Nat × List Nat)
  | [] => none
  | r :: t => if escR r then some (decR r, t) else if r = 117 then hex4 t else some (r, t)
/-- A key, from characters that were read on; none: an error. -/
def keyF : Nat → List Nat → List Nat → Option (List Nat × List Nat)
  | 0, acc, _ => some (acc, [])
  | _ + 1, acc, [] => some (acc, [])
  | n + 1, acc, r :: t => if r = 92 then (match escS t with | none => none | some (c, t2) => keyF n (acc ++ [c]) t2) else if endR r then some (acc, r :: t) else keyF n (acc ++ [r]) t
/-- A value: its characters, what follows, whether the text ended. -/
def valF : Nat → List Nat → List Nat → Option (List Nat × List Nat × Bool)
  | 0, acc, _ => some (acc, [], true)
  | _ + 1, acc, [] => some (acc, [], true)
  | n + 1, acc, r :: t =>
    if r = 92 then
      (match t with
      | [] => none
      | x :: t2 => if eolR x then valF n acc (dropWs t2) else (match escS (x :: t2) with | none => none | some (c, t3) => valF n (acc ++ [c]) t3))
    else if eolR r then some (acc, t, false) else valF n (acc ++ [r]) t
/-- A comment: its characters, what follows; none: the text ended. -/
def cmtF : List Nat → List Nat → List Nat × Option (List Nat)
  | acc, [] => (acc, none)
  | acc, r :: t => if eolR r then (acc, some t) else cmtF (acc ++ [r]) t
def bvS (rs : List Nat) : List Nat :=
  dropWs (match dropWs rs with | [] => [] | r :: t => if r == 58 || r == 61 then t else r :: t)
/-- The bytes of characters that were gathered. -/
def encA (rs : List Nat) : List UInt8 := rs.flatMap fun (r : Nat) => (Utf8.encode (r : Int)).data.toList
abbrev It := Nat × List UInt8
/-- What the lexer's states tell from here on: 0 ahead of a key, 1 in a comment, 2 in a key, 3 ahead of a value, 4 in a value. -/
def lexM : Nat → Nat → List Nat → List It
  | 0, _, _ => []
  | n + 1, 0, rs => (match rs with
    | [] => [(1, [])]
    | r :: t => if eolR r then lexM n 0 t else if cmtR r then lexM n 1 t else if wsR r then lexM n 0 t else lexM n 2 (r :: t))
  | n + 1, 1, rs => (match cmtF [] (dropWs rs) with
    | (c, none) => [(1, encA c)]
    | (c, some t) => (4, encA c) :: lexM n 0 t)
  | n + 1, 2, rs => (match keyF (rs.length + 1) [] rs with
    | none => [(0, [])]
    | some (k, t) => (if k = [] then [] else [(2, encA k)]) ++ (if t = [] then [(1, [])] else lexM n 3 t))
  | n + 1, 3, rs => lexM n 4 (bvS rs)
  | n + 1, _ + 4, rs => (match valF (rs.length + 1) [] rs with
    | none => [(0, [])]
    | some (v, t, e) => (3, encA v) :: (if e then [(1, [])] else lexM n 0 t))
def mu (m : Nat) (rs : List Nat) : Nat := 5 * rs.length + (if m = 1 then 0 else 4 - m)
/-- What a text tells. -/
def lexT (l : List UInt8) : List It := lexM (mu 0 (rns l) + 1) 0 (rns l)

theorem dropWs_le (rs : List Nat) : (dropWs rs).length ≤ rs.length := by
  induction rs with
  | nil => simp [dropWs]
  | cons r rs ih =>
    unfold dropWs at *
    rw [List.dropWhile_cons]
    split
    · rw [List.length_cons]; omega
    · simp
theorem hex4_le {rs t : List Nat} {c : Nat} (h : hex4 rs = some (c, t)) : t.length ≤ rs.length := by
  match rs, h with
  | a :: b :: x :: d :: t2, h =>
    rw [hex4] at h
    by_cases hh : (hexR a && hexR b && hexR x && hexR d) = true
    · rw [if_pos hh] at h
      simp only [Option.some.injEq, Prod.mk.injEq] at h
      rw [← h.2]
      simp only [List.length_cons]
      omega
    · rw [if_neg hh] at h
      cases h
theorem escS_le {rs t : List Nat} {c : Nat} (h : escS rs = some (c, t)) : t.length < rs.length := by
  cases rs with
  | nil => cases h
  | cons r rs =>
    rw [escS] at h
    by_cases h1 : escR r = true
    · rw [if_pos h1] at h
      simp only [Option.some.injEq, Prod.mk.injEq] at h
      rw [← h.2, List.length_cons]; omega
    · rw [if_neg h1] at h
      by_cases h2 : r = 117
      · rw [if_pos h2] at h
        have := hex4_le h; rw [List.length_cons]; omega
      · rw [if_neg h2] at h
        simp only [Option.some.injEq, Prod.mk.injEq] at h
        rw [← h.2, List.length_cons]; omega
theorem bvS_le (rs : List Nat) : (bvS rs).length ≤ rs.length := by
  unfold bvS
  refine Nat.le_trans (dropWs_le _) (Nat.le_trans ?_ (dropWs_le rs))
  split
  · simp
  · rename_i r t h
    rw [h]
    split
    · simp
    · simp
theorem keyF_le : ∀ (n : Nat) (acc rs k t : List Nat), keyF n acc rs = some (k, t) → t.length ≤ rs.length
  | 0, acc, rs, k, t, h => by simp [keyF] at h; rw [h.2]; simp
  | n + 1, acc, [], k, t, h => by simp [keyF] at h; rw [h.2]; exact Nat.le_refl _
  | n + 1, acc, r :: rs, k, t, h => by
    unfold keyF at h
    split at h
    · split at h
      · cases h
      · rename_i c t2 he
        have h1 := escS_le he
        have h2 := keyF_le n _ _ _ _ h
        rw [List.length_cons]; omega
    · split at h
      · simp at h; rw [← h.2]; simp
      · have h2 := keyF_le n _ _ _ _ h
        rw [List.length_cons]; omega
theorem valF_le : ∀ (n : Nat) (acc rs v t : List Nat), valF n acc rs = some (v, t, false) → t.length < rs.length
  | 0, acc, rs, k, t, h => by simp [valF] at h
  | n + 1, acc, [], k, t, h => by simp [valF] at h
  | n + 1, acc, r :: rs, k, t, h => by
    unfold valF at h
    split at h
    · split at h
      · cases h
      · rename_i x t2
        split at h
        · have h2 := valF_le n _ _ _ _ h
          have h3 := dropWs_le t2
          simp only [List.length_cons]; omega
        · split at h
          · cases h
          · rename_i c t3 he
            have h1 := escS_le he
            have h2 := valF_le n _ _ _ _ h
            simp only [List.length_cons] at *; omega
    · split at h
      · simp at h; rw [← h.2]; simp
      · have h2 := valF_le n _ _ _ _ h
        rw [List.length_cons]; omega
theorem cmtF_le : ∀ (rs acc c t : List Nat), cmtF acc rs = (c, some t) → t.length < rs.length
  | [], acc, c, t, h => by simp [cmtF] at h
  | r :: rs, acc, c, t, h => by
    unfold cmtF at h
    split at h
    · simp at h; rw [← h.2]; simp
    · have h2 := cmtF_le rs _ _ _ h
      rw [List.length_cons]; omega
theorem encA_snoc (a : List Nat) (r : Nat) : encA (a ++ [r]) = encA a ++ (Utf8.encode (r : Int)).data.toList := by
  unfold encA
  rw [List.flatMap_append]; simp
end Go.Proofs.YtdfhidnhkeapbaaGreatDoor.U8
