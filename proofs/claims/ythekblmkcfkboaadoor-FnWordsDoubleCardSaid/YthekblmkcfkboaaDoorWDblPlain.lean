/- The plain machine over words between double quotes. No program is in sight. -/
import Derived.Test.YthekblmkcfkboaaDoorWBarePlain
namespace Go.Proofs.YthekblmkcfkboaaDoor
open Go.Lib U8

def escD (w : List UInt8) : List UInt8 := w.flatMap fun b => if b = 34 ∨ b = 92 then [92, b] else [b]
def quoteD (w : List UInt8) : List UInt8 := 34 :: (escD w ++ [34])
/-- A byte that may stand there. -/
def okD (b : UInt8) : Prop := 32 ≤ b.toNat ∧ b.toNat < 127 ∧ b.toNat ≠ 36 ∧ b.toNat ≠ 96
def sd (args : List (List UInt8)) (buf : List UInt8) (got : Nat) (i : Int) : Sx := ⟨args, buf, got, true, false, true, false, false, false, false, false, i⟩
def se (args : List (List UInt8)) (buf : List UInt8) (i : Int) : Sx := ⟨args, buf, 2, true, false, false, false, false, false, false, false, i⟩
theorem step_dq (args : List (List UInt8)) (buf : List UInt8) (got : Nat) (i : Int) (b : UInt8) (h : okD b) (h34 : b.toNat ≠ 34) (h92 : b.toNat ≠ 92) :
    ∃ g, stepS false [] (sd args buf got i) b.toNat = .go (sd args (buf ++ [b]) g (i + 1)) := by
  obtain ⟨h1, h2, h36, h96⟩ := h
  by_cases h32 : b.toNat = 32
  · have hb : b = 32 := UInt8.toNat_inj.1 h32
    subst hb
    exact ⟨got, rfl⟩
  · have hs : isSp b.toNat = false := by
      unfold isSp
      simp
      omega
    have h36' : (b.toNat == 36) = false := beq_eq_false_iff_ne.2 h36
    refine ⟨1, ?_⟩
    by_cases h41 : b.toNat = 41
    · have hb : b = 41 := UInt8.toNat_inj.1 h41
      subst hb; rfl
    by_cases h40 : b.toNat = 40
    · have hb : b = 40 := UInt8.toNat_inj.1 h40
      subst hb; rfl
    by_cases h39 : b.toNat = 39
    · have hb : b = 39 := UInt8.toNat_inj.1 h39
      subst hb; rfl
    by_cases h59 : b.toNat = 59
    · have hb : b = 59 := UInt8.toNat_inj.1 h59
      subst hb; rfl
    by_cases h38 : b.toNat = 38
    · have hb : b = 38 := UInt8.toNat_inj.1 h38
      subst hb; rfl
    by_cases h124 : b.toNat = 124
    · have hb : b = 124 := UInt8.toNat_inj.1 h124
      subst hb; rfl
    by_cases h60 : b.toNat = 60
    · have hb : b = 60 := UInt8.toNat_inj.1 h60
      subst hb; rfl
    by_cases h62 : b.toNat = 62
    · have hb : b = 62 := UInt8.toNat_inj.1 h62
      subst hb; rfl
    by_cases h35 : b.toNat = 35
    · have hb : b = 35 := UInt8.toNat_inj.1 h35
      subst hb; rfl
    unfold stepS switchS Sx.put sd
    simp [h92, hs, h96, h41, h40, h34, h39, h59, h38, h124, h60, h62, h35, h36', enc1_byte (show b.toNat < 128 by omega)]
theorem step_dq_esc (args : List (List UInt8)) (buf : List UInt8) (got : Nat) (i : Int) (b : UInt8) (h : b = 34 ∨ b = 92) (m : List Nat) :
    goes false [] (sd args buf got i) (92 :: b.toNat :: m) = goes false [] (sd args (buf ++ [b]) 1 (i + 1 + 1)) m := by
  rcases h with rfl | rfl <;> rfl
theorem goes_dq : ∀ (w : List UInt8) (args : List (List UInt8)) (buf : List UInt8) (got : Nat) (i : Int), (∀ b ∈ w, okD b) → ∃ g j, goes false [] (sd args buf got i) ((escD w).map UInt8.toNat) = some (sd args (buf ++ w) g j)
  | [], args, buf, got, i, _ => ⟨got, i, by rw [List.append_nil]; rfl⟩
  | b :: w, args, buf, got, i, h => by
    have hb := h b (by simp)
    have hw : ∀ x ∈ w, okD x := fun x hx => h x (by simp [hx])
    have e : escD (b :: w) = (if b = 34 ∨ b = 92 then [92, b] else [b]) ++ escD w := by simp [escD]
    rw [e]
    by_cases hc : b = 34 ∨ b = 92
    · obtain ⟨g, j, hj⟩ := goes_dq w args (buf ++ [b]) 1 (i + 1 + 1) hw
      refine ⟨g, j, ?_⟩
      rw [if_pos hc]
      show goes false [] (sd args buf got i) (92 :: b.toNat :: (escD w).map UInt8.toNat) = _
      rw [step_dq_esc args buf got i b hc, hj, List.append_assoc]
      rfl
    · obtain ⟨g1, h1⟩ := step_dq args buf got i b hb (fun h => hc (.inl (UInt8.toNat_inj.1 h))) (fun h => hc (.inr (UInt8.toNat_inj.1 h)))
      obtain ⟨g, j, hj⟩ := goes_dq w args (buf ++ [b]) g1 (i + 1) hw
      refine ⟨g, j, ?_⟩
      rw [if_neg hc]
      show (match stepS false [] (sd args buf got i) b.toNat with | .go s' => goes false [] s' ((escD w).map UInt8.toNat) | _ => none) = _
      rw [h1]
      show goes false [] (sd args (buf ++ [b]) g1 (i + 1)) ((escD w).map UInt8.toNat) = _
      rw [hj, List.append_assoc]
      rfl
theorem goes_quote (w : List UInt8) (args : List (List UInt8)) (i : Int) (h : ∀ b ∈ w, okD b) : ∃ j, goes false [] (st0 args [] 0 i) ((quoteD w).map UInt8.toNat) = some (se args w j) := by
  obtain ⟨g, j, hj⟩ := goes_dq w args [] 0 (i + 1) h
  rw [List.nil_append] at hj
  refine ⟨j + 1, ?_⟩
  have e : (quoteD w).map UInt8.toNat = 34 :: ((escD w).map UInt8.toNat ++ [34]) := by simp [quoteD]
  rw [e]
  show goes false [] (sd args [] 0 (i + 1)) ((escD w).map UInt8.toNat ++ [34]) = _
  rw [goes_app [34] hj]
  rfl
theorem joinA_two (sep x y : List UInt8) (l : List (List UInt8)) : joinA sep (x :: y :: l) = x ++ (sep ++ joinA sep (y :: l)) := by simp [joinA]
/-- WORDS BETWEEN DOUBLE QUOTES. -/
theorem dbl_run : ∀ (l : List (List UInt8)) (x : List UInt8) (args : List (List UInt8)) (i : Int), (∀ w ∈ x :: l, ∀ b ∈ w, okD b) →
    runS false [] (st0 args [] 0 i) ((joinA [32] ((x :: l).map quoteD)).map UInt8.toNat) = some (args ++ x :: l, -1)
  | [], x, args, i, h => by
    obtain ⟨j, hj⟩ := goes_quote x args i (h x (by simp))
    have e : joinA [32] (([x] : List (List UInt8)).map quoteD) = quoteD x := by simp [joinA]
    have h2 := goes_run [] hj
    rw [List.append_nil] at h2
    rw [e, h2]
    rfl
  | y :: l, x, args, i, h => by
    obtain ⟨j, hj⟩ := goes_quote x args i (h x (by simp))
    have ih := dbl_run l y (args ++ [x]) (j + 1) (fun w hw => h w (by simp only [List.mem_cons] at hw ⊢; exact .inr hw))
    have e : joinA [32] ((x :: y :: l).map quoteD) = quoteD x ++ ([32] ++ joinA [32] ((y :: l).map quoteD)) := by
      rw [List.map_cons, List.map_cons, joinA_two]
    rw [e, List.map_append, goes_run _ hj]
    show runS false [] (st0 (args ++ [x]) [] 0 (j + 1)) ((joinA [32] ((y :: l).map quoteD)).map UInt8.toNat) = _
    rw [ih]
    simp
theorem escD_asc {w : List UInt8} (h : ∀ b ∈ w, okD b) : ∀ b ∈ escD w, b.toNat < 128 := by
  intro b hb
  obtain ⟨c, hc, hb⟩ := List.mem_flatMap.1 hb
  have hcc := (h c hc).2.1
  split at hb
  · rcases List.mem_cons.1 hb with rfl | hb
    · decide
    · rw [List.mem_singleton] at hb; subst hb; omega
  · rw [List.mem_singleton] at hb; subst hb; omega
theorem quoteD_asc {w : List UInt8} (h : ∀ b ∈ w, okD b) : ∀ b ∈ quoteD w, b.toNat < 128 := by
  intro b hb
  unfold quoteD at hb
  rcases List.mem_cons.1 hb with rfl | hb
  · decide
  rcases List.mem_append.1 hb with hb | hb
  · exact escD_asc h b hb
  · rw [List.mem_singleton] at hb; subst hb; decide
theorem joinA_asc {l : List (List UInt8)} (h : ∀ w ∈ l, ∀ b ∈ w, b.toNat < 128) : ∀ b ∈ joinA [32] l, b.toNat < 128 := by
  cases l with
  | nil => intro b hb; cases hb
  | cons x l =>
    intro b hb
    unfold joinA at hb
    rcases List.mem_append.1 hb with hb | hb
    · exact h x (by simp) b hb
    · obtain ⟨y, hy, hb⟩ := List.mem_flatMap.1 hb
      rcases List.mem_append.1 hb with hb | hb
      · rw [List.mem_singleton] at hb; subst hb; decide
      · exact h y (by simp [hy]) b hb
theorem dbl_line {l : List (List UInt8)} (hl : l ≠ []) (h : ∀ w ∈ l, ∀ b ∈ w, okD b) : runS false [] Sx.start (rns (joinA [32] (l.map quoteD))) = some (l, -1) := by
  cases l with
  | nil => exact absurd rfl hl
  | cons x l =>
    rw [rns_asc _ (joinA_asc (fun w hw => by obtain ⟨v, hv, rfl⟩ := List.mem_map.1 hw; exact quoteD_asc (h v hv)))]
    exact dbl_run l x [] (-1) h

end Go.Proofs.YthekblmkcfkboaaDoor
