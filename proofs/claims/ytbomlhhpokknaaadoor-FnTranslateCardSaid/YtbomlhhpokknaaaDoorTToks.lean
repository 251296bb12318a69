/- Patterns as lists of characters and ranges: what the reference's reader makes of them. No program is in sight. -/
import Derived.Test.YtbomlhhpokknaaaDoorTPat
namespace Go.Proofs.YtbomlhhpokknaaaDoor
open Go.Lib U8

theorem patF_inv {tt nt : Bool} {f : Nat} {fi si : Bool} {acc : List Nat} {c : Nat} {r L : List Nat} (h : patF tt nt (f + 1) fi si acc (c :: r) = some L) :
    (c = 92 ∧ ∃ d r2, r = d :: r2 ∧ patF tt nt f false false (acc ++ [d]) r2 = some L) ∨
    (c = 45 ∧ si = true ∧ ∃ d r2 acc2, r = d :: r2 ∧ badD d = false ∧ ¬ (acc.getLastD 0 > d + 5000 ∨ d > acc.getLastD 0 + 5000) ∧ expF 5001 (acc.getLastD 0) d acc = some acc2 ∧ patF tt nt f false false acc2 r2 = some L) ∨
    (c = 94 ∧ patF tt nt f false false (acc ++ [94]) r = some L) ∨
    (c ≠ 92 ∧ c ≠ 45 ∧ patF tt nt f false true (acc ++ [c]) r = some L) := by
  by_cases h92 : c = 92
  · subst h92
    refine .inl ⟨rfl, ?_⟩
    cases r with
    | nil => rw [patF_esc0] at h; cases h
    | cons d r2 =>
      cases hb : badD d with
      | false => rw [patF_esc1 hb] at h; cases h
      | true =>
        rw [patF_esc hb] at h
        by_cases h45 : hd45 r2 = true
        · rw [if_pos h45] at h; cases h
        · rw [if_neg h45] at h; exact ⟨d, r2, rfl, h⟩
  by_cases h45 : c = 45
  · subst h45
    refine .inr (.inl ⟨rfl, ?_⟩)
    cases si with
    | false => rw [patF_das0] at h; cases h
    | true =>
      refine ⟨rfl, ?_⟩
      cases r with
      | nil => rw [patF_das1] at h; cases h
      | cons d r2 =>
        cases hb : badD d with
        | true => rw [patF_das2 hb] at h; cases h
        | false =>
          by_cases h5 : acc.getLastD 0 > d + 5000 ∨ d > acc.getLastD 0 + 5000
          · rw [patF_das3 hb h5] at h; cases h
          · rw [patF_das4 hb h5] at h
            cases he : expF 5001 (acc.getLastD 0) d acc with
            | none => rw [he] at h; cases h
            | some acc2 =>
              rw [he] at h
              dsimp only at h
              by_cases h45 : hd45 r2 = true
              · rw [if_pos h45] at h; cases h
              · rw [if_neg h45] at h; exact ⟨d, r2, acc2, rfl, hb, h5, he, h⟩
  by_cases h94 : c = 94 ∧ (fi = false ∨ nt = true) ∧ tt = false
  · obtain ⟨rfl, h2, rfl⟩ := h94
    rw [patF_hat h2] at h
    refine .inr (.inr (.inl ⟨rfl, ?_⟩))
    by_cases h45 : hd45 r = true
    · rw [if_pos h45] at h; cases h
    · rw [if_neg h45] at h; exact h
  · rw [patF_dflt h92 h45 h94] at h
    exact .inr (.inr (.inr ⟨h92, h45, h⟩))

theorem patF_len (tt nt : Bool) : ∀ (f : Nat) (fi si : Bool) (acc l L : List Nat), patF tt nt f fi si acc l = some L → L.length ≤ acc.length + 5001 * f
  | 0, fi, si, acc, l, L, h => by rw [patF.eq_def] at h; cases h; omega
  | f + 1, fi, si, acc, [], L, h => by rw [patF.eq_def] at h; cases h; omega
  | f + 1, fi, si, acc, c :: r, L, h => by
    rcases patF_inv h with ⟨_, d, r2, _, k⟩ | ⟨_, _, d, r2, acc2, _, _, _, he, k⟩ | ⟨_, k⟩ | ⟨_, _, k⟩
    · have := patF_len tt nt f _ _ _ _ _ k; rw [List.length_append, List.length_singleton] at this; omega
    · have := patF_len tt nt f _ _ _ _ _ k; have := (expF_len _ _ _ _ _ he).1; omega
    · have := patF_len tt nt f _ _ _ _ _ k; rw [List.length_append, List.length_singleton] at this; omega
    · have := patF_len tt nt f _ _ _ _ _ k; rw [List.length_append, List.length_singleton] at this; omega
theorem pat_len {tt : Bool} {p L : List Nat} (h : pat tt p = some L) : L.length ≤ 5001 * p.length := by
  unfold pat at h
  split at h
  · split at h
    · cases h
    · have := patF_len _ _ _ _ _ _ _ _ h; simp at this; exact this
  · have := patF_len _ _ _ _ _ _ _ _ h; simp at this; exact this

/-! ### a pattern's parts -/
inductive Tok where
  | ch (c : Nat)
  | es (d : Nat)
  | rg (a b : Nat)
def Tok.fst : Tok → Nat
  | .ch c => c
  | .es d => d
  | .rg a _ => a
def Tok.rest : Tok → List Nat
  | .rg _ b => [45, b]
  | _ => []
def Tok.raw : Tok → List Nat
  | .ch c => [c]
  | .es d => [92, d]
  | .rg a b => [a, 45, b]
/-- n numbers from a on, by s. -/
def seqI (a s : Int) (n : Nat) : List Int := (List.range n).map fun (i : Nat) => a + (i : Int) * s
def sgn (a b : Nat) : Int := if a < b then 1 else -1
def dist (a b : Nat) : Nat := (b - a) + (a - b)
def Tok.vals : Tok → List Int
  | .ch c => [(c : Int)]
  | .es d => [(d : Int)]
  | .rg a b => seqI a (sgn a b) (dist a b + 1)
def Tok.ok : Tok → Prop
  | .ch c => c ≠ 92 ∧ c ≠ 45
  | .es _ => True
  | .rg a b => a ≠ 92 ∧ a ≠ 45 ∧ b ≠ 92 ∧ b ≠ 45
def raws (ts : List Tok) : List Nat := ts.flatMap Tok.raw
def vals (ts : List Tok) : List Int := ts.flatMap Tok.vals
def Oks (ts : List Tok) : Prop := ∀ t ∈ ts, t.ok
theorem Oks.head {t : Tok} {ts : List Tok} (h : Oks (t :: ts)) : t.ok := h t (by simp)
theorem Oks.tail {t : Tok} {ts : List Tok} (h : Oks (t :: ts)) : Oks ts := fun x hx => h x (by simp [hx])
theorem Oks.cons {t : Tok} {ts : List Tok} (h : t.ok) (k : Oks ts) : Oks (t :: ts) := fun x hx => by
  rcases List.mem_cons.1 hx with rfl | hx
  · exact h
  · exact k x hx
theorem raws_cons (t : Tok) (ts : List Tok) : raws (t :: ts) = t.raw ++ raws ts := by unfold raws; rw [List.flatMap_cons]
theorem vals_cons (t : Tok) (ts : List Tok) : vals (t :: ts) = t.vals ++ vals ts := by unfold vals; rw [List.flatMap_cons]
theorem seqI_zero (a s : Int) : seqI a s 0 = [] := rfl
theorem seqI_length (a s : Int) (n : Nat) : (seqI a s n).length = n := by unfold seqI; simp
theorem seqI_succ (a s : Int) (n : Nat) : seqI a s (n + 1) = a :: seqI (a + s) s n := by
  unfold seqI
  rw [List.range_succ_eq_map, List.map_cons, List.map_map]
  congr 1
  · simp
  · apply List.map_congr_left
    intro i _
    simp only [Function.comp, Nat.succ_eq_add_one]
    push_cast
    rw [Int.add_mul, Int.one_mul]; omega
theorem seqI_one (a s : Int) : seqI a s 1 = [a] := by rw [seqI_succ, seqI_zero]
theorem seqI_add (a s : Int) (m : Nat) : ∀ n : Nat, seqI a s (n + m) = seqI a s n ++ seqI (a + n * s) s m := by
  intro n
  induction n generalizing a with
  | zero => simp [seqI_zero]
  | succ n ih =>
    rw [show n + 1 + m = (n + m) + 1 by omega, seqI_succ, seqI_succ, ih (a + s), List.cons_append]
    congr 3
    push_cast
    rw [Int.add_mul, Int.one_mul]; omega
theorem seqI_get (a s : Int) (n i : Nat) (h : i < n) : (seqI a s n)[i]? = some (a + i * s) := by
  unfold seqI
  rw [List.getElem?_map, List.getElem?_range h]
  rfl
theorem seqI_mem {a s : Int} {n : Nat} {x : Int} (h : x ∈ seqI a s n) : ∃ i : Nat, i < n ∧ x = a + i * s := by
  unfold seqI at h
  obtain ⟨i, hi, rfl⟩ := List.mem_map.1 h
  exact ⟨i, List.mem_range.1 hi, rfl⟩
theorem vals_ne (t : Tok) : t.vals ≠ [] := by
  cases t with
  | ch c => simp [Tok.vals]
  | es c => simp [Tok.vals]
  | rg a b => show seqI _ _ _ ≠ []; rw [seqI_succ]; simp
theorem raw_ne (t : Tok) : t.raw ≠ [] := by cases t <;> simp [Tok.raw]
abbrev cast (l : List Nat) : List Int := l.map fun (n : Nat) => (n : Int)

theorem expF_vals : ∀ (f a b : Nat) (acc L : List Nat), dist a b < f → expF f a b acc = some L → cast L = cast acc ++ seqI ((a : Int) + sgn a b) (sgn a b) (dist a b)
  | 0, _, _, _, _, hd, _ => by omega
  | f + 1, a, b, acc, L, hd, h => by
    unfold expF at h
    by_cases e : a = b
    · rw [if_pos e] at h; cases h; subst e
      rw [show dist a a = 0 by unfold dist; omega, seqI_zero, List.append_nil]
    · rw [if_neg e] at h
      by_cases hlt : a < b
      · rw [if_pos hlt] at h
        by_cases s : sgt (a + 1) = true
        · rw [if_pos s] at h; cases h
        · rw [if_neg s] at h
          have hs : sgn a b = 1 := by unfold sgn; rw [if_pos hlt]
          have hdd : dist a b = dist (a + 1) b + 1 := by unfold dist; omega
          rw [hdd] at hd
          have ih := expF_vals f (a + 1) b _ L (by omega) h
          rw [ih, hdd, seqI_succ, hs]
          by_cases hlt2 : a + 1 < b
          · rw [show sgn (a + 1) b = 1 by unfold sgn; rw [if_pos hlt2]]
            simp [cast, List.map_append]
          · rw [show dist (a + 1) b = 0 by unfold dist; omega, seqI_zero, seqI_zero]
            simp [cast, List.map_append]
      · rw [if_neg hlt] at h
        by_cases s : sgt (a - 1) = true
        · rw [if_pos s] at h; cases h
        · rw [if_neg s] at h
          have hs : sgn a b = -1 := by unfold sgn; rw [if_neg hlt]
          have hdd : dist a b = dist (a - 1) b + 1 := by unfold dist; omega
          rw [hdd] at hd
          have ih := expF_vals f (a - 1) b _ L (by omega) h
          rw [ih, hdd, seqI_succ, hs, show ((a - 1 : Nat) : Int) = (a : Int) + -1 by omega]
          have hs2 : sgn (a - 1) b = -1 := by unfold sgn; rw [if_neg (by omega)]
          rw [hs2]
          simp [cast, List.map_append]
          omega

/-- WHAT THE REFERENCE READS: a list of parts. -/
theorem patF_toks (tt nt : Bool) : ∀ (f : Nat) (fi si : Bool) (acc l L : List Nat), l.length ≤ f → patF tt nt f fi si acc l = some L →
    (si = false → ∃ ts, Oks ts ∧ raws ts = l ∧ cast L = cast acc ++ vals ts) ∧
    (si = true → ∀ acc' a, acc = acc' ++ [a] → a ≠ 92 → a ≠ 45 → ∃ ts, Oks ts ∧ raws ts = a :: l ∧ cast L = cast acc' ++ vals ts) := by
  intro f
  induction f with
  | zero =>
    intro fi si acc l L hl h
    have : l = [] := List.eq_nil_of_length_eq_zero (by omega)
    subst this
    rw [patF.eq_def] at h; cases h
    refine ⟨fun _ => ⟨[], fun _ h => (by cases h), rfl, by simp [vals]⟩, fun _ acc' a ha h1 h2 => ⟨[.ch a], Oks.cons ⟨h1, h2⟩ (fun _ h => (by cases h)), rfl, by rw [ha]; simp [vals, Tok.vals, cast]⟩⟩
  | succ f ih =>
    intro fi si acc l L hl h
    cases l with
    | nil =>
      rw [patF.eq_def] at h; cases h
      refine ⟨fun _ => ⟨[], fun _ h => (by cases h), rfl, by simp [vals]⟩, fun _ acc' a ha h1 h2 => ⟨[.ch a], Oks.cons ⟨h1, h2⟩ (fun _ h => (by cases h)), rfl, by rw [ha]; simp [vals, Tok.vals, cast]⟩⟩
    | cons c r =>
      rw [List.length_cons] at hl
      rcases patF_inv h with ⟨rfl, d, r2, rfl, k⟩ | ⟨rfl, hsi, d, r2, acc2, rfl, hbd, h5, he, k⟩ | ⟨rfl, k⟩ | ⟨h92, h45, k⟩
      · rw [List.length_cons] at hl
        obtain ⟨ts, ho, hr, hv⟩ := (ih _ _ _ _ _ (by omega) k).1 rfl
        refine ⟨fun _ => ⟨.es d :: ts, Oks.cons trivial ho, by rw [raws_cons, hr]; rfl, by rw [hv, vals_cons]; simp [cast, Tok.vals]⟩, fun _ acc' a ha h1 h2 => ⟨.ch a :: .es d :: ts, Oks.cons ⟨h1, h2⟩ (Oks.cons trivial ho), by rw [raws_cons, raws_cons, hr]; rfl, by rw [hv, vals_cons, vals_cons, ha]; simp [cast, Tok.vals]⟩⟩
      · rw [List.length_cons] at hl
        refine ⟨fun hs => (by rw [hsi] at hs; cases hs), fun _ acc' a ha h1 h2 => ?_⟩
        have hla : acc.getLastD 0 = a := by rw [ha]; simp
        rw [hla] at he h5
        obtain ⟨ts, ho, hr, hv⟩ := (ih _ _ _ _ _ (by omega) k).1 rfl
        have hex := expF_vals _ _ _ _ _ (by unfold dist; omega) he
        have hb : d ≠ 92 ∧ d ≠ 45 := by unfold badD at hbd; simp at hbd; omega
        refine ⟨.rg a d :: ts, Oks.cons ⟨h1, h2, hb.1, hb.2⟩ ho, by rw [raws_cons, hr]; rfl, ?_⟩
        rw [hv, hex, vals_cons, ha]
        show _ = _ ++ (seqI _ _ _ ++ _)
        rw [seqI_succ]
        simp [cast]
      · obtain ⟨ts, ho, hr, hv⟩ := (ih _ _ _ _ _ (by omega) k).1 rfl
        have hc : (Tok.ch 94).ok := ⟨by omega, by omega⟩
        refine ⟨fun _ => ⟨.ch 94 :: ts, Oks.cons hc ho, by rw [raws_cons, hr]; rfl, by rw [hv, vals_cons]; simp [cast, Tok.vals]⟩, fun _ acc' a ha h1 h2 => ⟨.ch a :: .ch 94 :: ts, Oks.cons ⟨h1, h2⟩ (Oks.cons hc ho), by rw [raws_cons, raws_cons, hr]; rfl, by rw [hv, vals_cons, vals_cons, ha]; simp [cast, Tok.vals]⟩⟩
      · obtain ⟨ts, ho, hr, hv⟩ := (ih _ _ _ _ _ (by omega) k).2 rfl acc c rfl h92 h45
        refine ⟨fun _ => ⟨ts, ho, hr, hv⟩, fun _ acc' a ha h1 h2 => ⟨.ch a :: ts, Oks.cons ⟨h1, h2⟩ ho, by rw [raws_cons, hr]; rfl, by rw [hv, vals_cons, ha]; simp [cast, Tok.vals]⟩⟩
theorem pat_toks {tt : Bool} {p L : List Nat} (h : pat tt p = some L) : ∃ ts, Oks ts ∧ raws ts = (if notOf tt p then p.drop 1 else p) ∧ cast L = vals ts := by
  unfold pat at h
  by_cases hn : notOf tt p = true
  · rw [if_pos hn] at h ⊢
    split at h
    · cases h
    · obtain ⟨ts, ho, hr, hv⟩ := (patF_toks _ _ _ _ _ _ _ _ (by simp) h).1 rfl
      exact ⟨ts, ho, hr, by simpa [cast] using hv⟩
  · rw [if_neg hn] at h ⊢
    obtain ⟨ts, ho, hr, hv⟩ := (patF_toks _ _ _ _ _ _ _ _ (Nat.le_refl _) h).1 rfl
    exact ⟨ts, ho, hr, by simpa [cast] using hv⟩

end Go.Proofs.YtbomlhhpokknaaaDoor
