/- The plain machine over words without any byte that means something. No program is in sight. -/
import Derived.Test.YthekblmkcfkboaaDoorWRun
namespace Go.Proofs.YthekblmkcfkboaaDoor
open Go.Lib U8

def markL : List UInt8 := [39, 34, 92, 96, 36, 40, 41, 59, 38, 124, 60, 62, 35, 42, 63, 91, 93, 123, 125, 33, 126]
def markB (c : UInt8) : Bool := decide (c.toNat ≤ 32 ∨ 127 ≤ c.toNat) || markL.any (· == c)
def joinA (sep : List UInt8) : List (List UInt8) → List UInt8
  | [] => []
  | x :: l => x ++ l.flatMap fun y => sep ++ y
theorem joinA_snoc (sep x : List UInt8) (l : List (List UInt8)) : joinA sep (l ++ [x]) = joinA sep l ++ (if l = [] then x else sep ++ x) := by
  cases l with
  | nil => simp [joinA]
  | cons y l => simp [joinA]
theorem mark_not {b : UInt8} (h : markB b = false) : 32 < b.toNat ∧ b.toNat < 127 ∧ b.toNat ≠ 39 ∧ b.toNat ≠ 34 ∧ b.toNat ≠ 92 ∧ b.toNat ≠ 96 ∧ b.toNat ≠ 36 ∧ b.toNat ≠ 40 ∧ b.toNat ≠ 41 ∧ b.toNat ≠ 59 ∧ b.toNat ≠ 38 ∧ b.toNat ≠ 124 ∧ b.toNat ≠ 60 ∧ b.toNat ≠ 62 ∧ b.toNat ≠ 35 := by
  unfold markB at h
  rw [Bool.or_eq_false_iff] at h
  obtain ⟨h1, h2⟩ := h
  have h3 := of_decide_eq_false h1
  have h4 : ∀ x ∈ markL, b.toNat ≠ x.toNat := fun x hx he => by
    have := List.any_eq_false.1 h2 x hx
    simp [UInt8.toNat_inj.1 he] at this
  refine ⟨by omega, by omega, ?_, ?_, ?_, ?_, ?_, ?_, ?_, ?_, ?_, ?_, ?_, ?_, ?_⟩
  · exact h4 39 (by decide)
  · exact h4 34 (by decide)
  · exact h4 92 (by decide)
  · exact h4 96 (by decide)
  · exact h4 36 (by decide)
  · exact h4 40 (by decide)
  · exact h4 41 (by decide)
  · exact h4 59 (by decide)
  · exact h4 38 (by decide)
  · exact h4 124 (by decide)
  · exact h4 60 (by decide)
  · exact h4 62 (by decide)
  · exact h4 35 (by decide)
theorem enc1_byte {b : UInt8} (h : b.toNat < 128) : enc1 b.toNat = [b] := by
  rw [enc1_a h]
  have e : ((b.toNat : Nat) : Int).toNat.toUInt8 = b := by
    apply UInt8.toNat_inj.1
    rw [Int.toNat_natCast]
    show (UInt8.ofNat b.toNat).toNat = _
    rw [UInt8.toNat_ofNat']
    exact Nat.mod_eq_of_lt b.toNat_lt
  rw [e]
/-- A state outside of quotes. -/
def st0 (args : List (List UInt8)) (buf : List UInt8) (got : Nat) (i : Int) : Sx := ⟨args, buf, got, false, false, false, false, false, false, false, false, i⟩
theorem step_bare {ex : List Nat} (args : List (List UInt8)) (buf : List UInt8) (got : Nat) (i : Int) (b : UInt8) (h : markB b = false ∨ (b.toNat < 128 ∧ ex.any (· == b.toNat) = true ∧ b.toNat ≠ 92)) :
    stepS false ex (st0 args buf got i) b.toNat = .go (st0 args (buf ++ [b]) 1 (i + 1)) := by
  cases hx : ex.any (· == b.toNat) with
  | true =>
    have hb : b.toNat < 128 ∧ b.toNat ≠ 92 := by
      rcases h with h | h
      · have := mark_not h; omega
      · exact ⟨h.1, h.2.2⟩
    unfold stepS st0
    simp [hx, hb.2, enc1_byte hb.1]
  | false =>
    have hm : markB b = false := by
      rcases h with h | h
      · exact h
      · rw [hx] at h; exact absurd h.2.1 (by simp)
    obtain ⟨h1, h2, h39, h34, h92, h96, h36, h40, h41, h59, h38, h124, h60, h62, h35⟩ := mark_not hm
    have hs : isSp b.toNat = false := by
      unfold isSp
      simp
      omega
    have h36' : (b.toNat == 36) = false := beq_eq_false_iff_ne.2 h36
    unfold stepS switchS Sx.put st0
    simp [hx, h92, hs, h96, h41, h40, h34, h39, h59, h38, h124, h60, h62, h35, h36', enc1_byte (show b.toNat < 128 by omega)]
theorem goes_bare {ex : List Nat} : ∀ (u : List UInt8) (args : List (List UInt8)) (buf : List UInt8) (got : Nat) (i : Int), (∀ b ∈ u, markB b = false ∨ (b.toNat < 128 ∧ ex.any (· == b.toNat) = true ∧ b.toNat ≠ 92)) →
    ∃ j, goes false ex (st0 args buf got i) (u.map UInt8.toNat) = some (st0 args (buf ++ u) (if u = [] then got else 1) j)
  | [], args, buf, got, i, _ => ⟨i, by rw [List.append_nil]; rfl⟩
  | b :: u, args, buf, got, i, h => by
    obtain ⟨j, hj⟩ := goes_bare u args (buf ++ [b]) 1 (i + 1) (fun x hx => h x (by simp [hx]))
    refine ⟨j, ?_⟩
    rw [List.map_cons]
    unfold goes
    rw [step_bare args buf got i b (h b (by simp))]
    dsimp only
    rw [hj]
    simp
/-- A blank. -/
theorem step_blank {ex : List Nat} (args : List (List UInt8)) (buf : List UInt8) (got : Nat) (i : Int) (b : Nat) (hb : b = 32 ∨ b = 9) (hx : ex.any (· == b) = false) (hg : got ≤ 1) :
    stepS false ex (st0 args buf got i) b = .go (st0 (if got = 1 ∧ buf ≠ [] then args ++ [buf] else args) [] 0 (i + 1)) := by
  have hs : isSp b = true := by rcases hb with rfl | rfl <;> rfl
  have h92 : b ≠ 92 := by rcases hb with rfl | rfl <;> decide
  unfold stepS st0
  simp only [hx, hs, h92, if_false, if_true, Bool.false_eq_true, Sx.quoted, Bool.or_false]
  unfold Sx.flush Sx.word
  dsimp only
  rcases (show got = 0 ∨ got = 1 by omega) with rfl | rfl
  · simp
  · cases buf <;> simp
theorem goes_app {cmt : Bool} {ex : List Nat} : ∀ {l : List Nat} {s s1 : Sx} (m : List Nat), goes cmt ex s l = some s1 → goes cmt ex s (l ++ m) = goes cmt ex s1 m
  | [], s, s1, m, h => by cases h; rfl
  | r :: l, s, s1, m, h => by
    rw [List.cons_append]
    unfold goes at h
    cases hx : stepS cmt ex s r with
    | go s' =>
      rw [hx] at h
      have h2 := goes_app (s := s') m h
      show (match stepS cmt ex s r with | .go s' => goes cmt ex s' (l ++ m) | _ => none) = _
      rw [hx]
      exact h2
    | stop s' => rw [hx] at h; cases h
    | err => rw [hx] at h; cases h
theorem fin_st0 (args : List (List UInt8)) (buf : List UInt8) (i : Int) (hb : buf ≠ []) : finS (st0 args buf 1 i) (-1) = some (args ++ [buf], -1) := by
  unfold finS st0 Sx.quoted Sx.flush Sx.word
  cases buf with
  | nil => exact absurd rfl hb
  | cons b l => simp
/-- WORDS THAT ARE PUT TOGETHER BY A SEPARATOR THAT IS IGNORED, AND ONE MORE. -/
theorem keep_run (c : UInt8) (u : List UInt8) (hc : c.toNat = 59 ∨ c.toNat = 38 ∨ c.toNat = 124 ∨ c.toNat = 9) (hu : ∀ b ∈ u, markB b = false ∨ b = c) (hne : u ≠ []) :
    runS false [c.toNat] Sx.start (rns (u ++ [32, 122])) = some ([u, [122]], -1) := by
  have hu2 : ∀ b ∈ u, markB b = false ∨ (b.toNat < 128 ∧ [c.toNat].any (· == b.toNat) = true ∧ b.toNat ≠ 92) := fun b hb => by
    rcases hu b hb with h | rfl
    · exact .inl h
    · exact .inr ⟨by omega, by simp, by omega⟩
  have hx32 : [c.toNat].any (· == 32) = false := by simp; omega
  rw [rns_asc _ (fun b hb => by
    rcases List.mem_append.1 hb with h | h
    · rcases hu2 b h with h | h
      · have := mark_not h; omega
      · exact h.1
    · rcases List.mem_cons.1 h with rfl | h
      · decide
      · rcases List.mem_cons.1 h with rfl | h
        · decide
        · cases h), List.map_append]
  obtain ⟨j, hj⟩ := goes_bare (ex := [c.toNat]) u [] [] 0 (-1) hu2
  have h1 : goes false [c.toNat] (st0 [] [] 0 (-1)) (u.map UInt8.toNat) = some (st0 [] u 1 j) := by rw [hj, List.nil_append, if_neg hne]
  rw [show Sx.start = st0 [] [] 0 (-1) from rfl, goes_run _ h1]
  have h2 := step_blank (ex := [c.toNat]) [] u 1 j 32 (.inl rfl) hx32 (by omega)
  rw [if_pos ⟨rfl, hne⟩] at h2
  have h3 := step_bare (ex := [c.toNat]) ([] ++ [u]) [] 0 (j + 1) 122 (.inl (by decide))
  show (match stepS false [c.toNat] (st0 [] u 1 j) 32 with | .err => none | .stop s' => finS s' s'.i | .go s' => runS false [c.toNat] s' [122]) = _
  rw [h2]
  show (match stepS false [c.toNat] (st0 ([] ++ [u]) [] 0 (j + 1)) 122 with | .err => none | .stop s' => finS s' s'.i | .go s' => runS false [c.toNat] s' []) = _
  have e122 : (122 : UInt8).toNat = 122 := rfl
  rw [e122] at h3
  rw [h3]
  exact fin_st0 _ _ _ (by simp)

end Go.Proofs.YthekblmkcfkboaaDoor
