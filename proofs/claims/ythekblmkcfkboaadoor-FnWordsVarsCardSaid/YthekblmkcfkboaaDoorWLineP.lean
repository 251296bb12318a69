/- The plain machine over bare words with blanks and tabs around them. No program is in sight. -/
import Derived.Test.YthekblmkcfkboaaDoorWBarePlain
namespace Go.Proofs.YthekblmkcfkboaaDoor
open Go.Lib U8

/-- The blanks ahead of a word. -/
def blankB (b : UInt8) (k : Nat) : List UInt8 := (List.range k).map fun j => if (b.toNat / 4 + j) % 2 = 0 then 32 else 9
def blankA (bs : List UInt8) (i : Nat) : List UInt8 := match bs[i]? with
  | some b => blankB b (b.toNat % 4)
  | none => []
theorem blankB_succ (b : UInt8) (k : Nat) : blankB b (k + 1) = blankB b k ++ [if (b.toNat / 4 + k) % 2 = 0 then 32 else 9] := by
  unfold blankB
  rw [List.range_succ, List.map_append]; rfl
theorem blankB_mem (b : UInt8) (k : Nat) : ∀ x ∈ blankB b k, x = 32 ∨ x = 9 := by
  intro x hx
  obtain ⟨j, _, rfl⟩ := List.mem_map.1 hx
  split
  · exact .inl rfl
  · exact .inr rfl
theorem blankA_mem (bs : List UInt8) (i : Nat) : ∀ x ∈ blankA bs i, x = 32 ∨ x = 9 := by
  unfold blankA
  split
  · exact blankB_mem _ _
  · intro x hx; cases hx
/-- What is put behind what is there, at word i. -/
def wordA (bs : List UInt8) (i : Nat) (w : List UInt8) : List UInt8 := (if i = 0 then [] else [32]) ++ (blankA bs i ++ w)
def lineA (bs : List UInt8) : Nat → List (List UInt8) → List UInt8
  | _, [] => []
  | i, w :: l => wordA bs i w ++ lineA bs (i + 1) l
theorem lineA_snoc (bs : List UInt8) (x : List UInt8) : ∀ (l : List (List UInt8)) (i : Nat), lineA bs i (l ++ [x]) = lineA bs i l ++ wordA bs (i + l.length) x
  | [], i => by simp [lineA]
  | w :: l, i => by
    show wordA bs i w ++ lineA bs (i + 1) (l ++ [x]) = wordA bs i w ++ lineA bs (i + 1) l ++ wordA bs (i + (w :: l).length) x
    rw [lineA_snoc bs x l (i + 1), List.length_cons, List.append_assoc, show i + 1 + l.length = i + (l.length + 1) by omega]
theorem goes_blanks : ∀ (u : List UInt8) (args : List (List UInt8)) (i : Int), (∀ x ∈ u, x = 32 ∨ x = 9) → ∃ j, goes false [] (st0 args [] 0 i) (u.map UInt8.toNat) = some (st0 args [] 0 j)
  | [], args, i, _ => ⟨i, rfl⟩
  | b :: u, args, i, h => by
    obtain ⟨j, hj⟩ := goes_blanks u args (i + 1) (fun x hx => h x (by simp [hx]))
    have hb : b.toNat = 32 ∨ b.toNat = 9 := by rcases h b (by simp) with rfl | rfl; left; rfl; right; rfl
    have h1 := step_blank (ex := []) args [] 0 i b.toNat hb rfl (by omega)
    rw [if_neg (by simp)] at h1
    refine ⟨j, ?_⟩
    rw [List.map_cons]
    unfold goes
    rw [h1]
    exact hj
theorem goes_word (bs : List UInt8) (i : Nat) (w : List UInt8) (args : List (List UInt8)) (p : Int) (h : ∀ b ∈ w, markB b = false) (hw : w ≠ []) : ∃ j, goes false [] (st0 args [] 0 p) ((blankA bs i ++ w).map UInt8.toNat) = some (st0 args w 1 j) := by
  obtain ⟨j1, h1⟩ := goes_blanks (blankA bs i) args p (blankA_mem bs i)
  obtain ⟨j2, h2⟩ := goes_bare (ex := []) w args [] 0 j1 (fun b hb => .inl (h b hb))
  refine ⟨j2, ?_⟩
  rw [List.map_append, goes_app _ h1, h2, List.nil_append, if_neg hw]
theorem line_rest (bs : List UInt8) : ∀ (l : List (List UInt8)) (i : Nat) (args : List (List UInt8)) (w : List UInt8) (p : Int), w ≠ [] → (∀ x ∈ l, x ≠ [] ∧ ∀ b ∈ x, markB b = false) →
    runS false [] (st0 args w 1 p) ((lineA bs (i + 1) l).map UInt8.toNat) = some (args ++ w :: l, -1)
  | [], i, args, w, p, hw, _ => fin_st0 args w p hw
  | y :: l, i, args, w, p, hw, h => by
    have hy := h y (by simp)
    have h1 := step_blank (ex := []) args w 1 p 32 (.inl rfl) rfl (by omega)
    rw [if_pos ⟨rfl, hw⟩] at h1
    obtain ⟨j, hj⟩ := goes_word bs (i + 1) y (args ++ [w]) (p + 1) hy.2 hy.1
    have ih := line_rest bs l (i + 1) (args ++ [w]) y j hy.1 (fun x hx => h x (by simp [hx]))
    have e : (lineA bs (i + 1) (y :: l)).map UInt8.toNat = 32 :: ((blankA bs (i + 1) ++ y).map UInt8.toNat ++ (lineA bs (i + 1 + 1) l).map UInt8.toNat) := by
      show (wordA bs (i + 1) y ++ lineA bs (i + 1 + 1) l).map UInt8.toNat = _
      unfold wordA
      rw [if_neg (by omega), List.map_append, List.map_append]
      rfl
    rw [e]
    show (match stepS false [] (st0 args w 1 p) 32 with | .err => none | .stop s' => finS s' s'.i | .go s' => runS false [] s' _) = _
    rw [h1]
    dsimp only
    rw [goes_run _ hj, ih, List.append_assoc]
    rfl
theorem lineA_asc (bs : List UInt8) : ∀ (l : List (List UInt8)) (i : Nat), (∀ x ∈ l, x ≠ [] ∧ ∀ b ∈ x, markB b = false) → ∀ b ∈ lineA bs i l, b.toNat < 128
  | [], _, _, b, hb => by cases hb
  | w :: l, i, h, b, hb => by
    have hb2 : b ∈ wordA bs i w ++ lineA bs (i + 1) l := hb
    rcases List.mem_append.1 hb2 with hb | hb
    · unfold wordA at hb
      rcases List.mem_append.1 hb with hb | hb
      · split at hb
        · cases hb
        · rw [List.mem_singleton] at hb; subst hb; decide
      · rcases List.mem_append.1 hb with hb | hb
        · rcases blankA_mem bs i b hb with rfl | rfl <;> decide
        · have := mark_not ((h w (by simp)).2 b hb); omega
    · exact lineA_asc bs l (i + 1) (fun x hx => h x (by simp [hx])) b hb
/-- BARE WORDS, WHATEVER BLANKS STAND AROUND THEM. -/
theorem line_run (bs : List UInt8) (l : List (List UInt8)) (hl : l ≠ []) (h : ∀ x ∈ l, x ≠ [] ∧ ∀ b ∈ x, markB b = false) : runS false [] Sx.start (rns (lineA bs 0 l)) = some (l, -1) := by
  rw [rns_asc _ (lineA_asc bs l 0 h)]
  cases l with
  | nil => exact absurd rfl hl
  | cons w l =>
    have hw := h w (by simp)
    obtain ⟨j, hj⟩ := goes_word bs 0 w [] (-1) hw.2 hw.1
    have h2 := line_rest bs l 0 [] w j hw.1 (fun x hx => h x (by simp [hx]))
    have e : (lineA bs 0 (w :: l)).map UInt8.toNat = (blankA bs 0 ++ w).map UInt8.toNat ++ (lineA bs (0 + 1) l).map UInt8.toNat := by
      show (wordA bs 0 w ++ lineA bs (0 + 1) l).map UInt8.toNat = _
      unfold wordA
      rw [if_pos rfl, List.nil_append, List.map_append]
    rw [e, show Sx.start = st0 [] [] 0 (-1) from rfl, goes_run _ hj, h2]
    rfl

end Go.Proofs.YthekblmkcfkboaaDoor
