/- For every two texts the law FnLastPartition answers true: the text is split at the last instance of the separator. No condition. -/
import Derived.Test.YtphfbhljnlbhhaaPFnLastPartitionx1
namespace Go.Proofs.Ytphfbhljnlbhhaa.Pure
open Go.RowKit Go.Proofs.Ytphfbhljnlbhhaa.PFnLastPartition Go.Proofs.YtphfbhljnlbhhaaW.PrintWords Go.Proofs.YtphfbhljnlbhhaaW.PrintLast

theorem wrap_in {x : Int} (h0 : -100000 ≤ x) (h1 : x ≤ 100000) : wrap64 x = x := by
  unfold wrap64
  omega

abbrev Occ (s t : ByteArray) (i : Int) : Prop := (s.extract i.toNat (i + (t.size : Int)).toNat).toList = t.toList

theorem last_tells (s t : ByteArray) (hs : s.size ≤ 4096) (ht : t.size ≤ 4096) (d : Nat) : ∀ (k : Nat) (i : Int), i ≤ (s.size : Int) - t.size → i < d → d < k →
    ∃ r, xstrings_zzLastIndex.l0 k s t i = some r ∧ ((r = -1 ∧ ∀ j, 0 ≤ j → j ≤ i → ¬ Occ s t j) ∨ (0 ≤ r ∧ r ≤ i ∧ Occ s t r ∧ ∀ j, r < j → j ≤ i → ¬ Occ s t j)) := by
  induction d with
  | zero =>
    intro k i h1 h2 hk
    obtain ⟨k, rfl⟩ : ∃ m, k = m + 1 := ⟨k - 1, by omega⟩
    exact ⟨-1, by simp only [xstrings_zzLastIndex.l0]; rw [if_neg (by omega)], Or.inl ⟨rfl, fun j h0 h1 => by omega⟩⟩
  | succ d ih =>
    intro k i h1 h2 hk
    obtain ⟨k, rfl⟩ : ∃ m, k = m + 1 := ⟨k - 1, by omega⟩
    simp only [xstrings_zzLastIndex.l0]
    by_cases h0 : i ≥ 0
    · rw [if_pos h0, if_pos h0, wrap_in (x := i + (t.size : Int)) (by omega) (by omega), if_pos (by omega), if_pos (by omega)]
      by_cases e : Occ s t i
      · exact ⟨i, by rw [if_pos e], Or.inr ⟨h0, by omega, e, fun j h3 h4 => by omega⟩⟩
      · rw [if_neg e, wrap_in (x := i - 1) (by omega) (by omega)]
        obtain ⟨r, hr, h⟩ := ih k (i - 1) (by omega) (by omega) (by omega)
        refine ⟨r, hr, ?_⟩
        rcases h with ⟨ha, hb⟩ | ⟨ha, hb, hc, hd⟩
        · refine Or.inl ⟨ha, fun j h3 h4 => ?_⟩
          by_cases ej : j = i
          · rw [ej]; exact e
          · exact hb j h3 (by omega)
        · refine Or.inr ⟨ha, by omega, hc, fun j h3 h4 => ?_⟩
          by_cases ej : j = i
          · rw [ej]; exact e
          · exact hd j h3 (by omega)
    · exact ⟨-1, by rw [if_neg h0], Or.inl ⟨rfl, fun j h3 h4 => by omega⟩⟩

theorem at_tells (s t : ByteArray) (hs : s.size ≤ 4096) (ht : t.size ≤ 4096) (d : Nat) : ∀ (k : Nat) (i : Int), 0 ≤ i → i ≤ 5000 → (s.size : Int) - i < d → d < k →
    ∃ r, laws_at.l0 k s t i = some r ∧ ((r = -1 ∧ ∀ j, i ≤ j → j + t.size ≤ s.size → ¬ Occ s t j) ∨ (i ≤ r ∧ r + t.size ≤ s.size ∧ Occ s t r)) := by
  induction d with
  | zero =>
    intro k i h0 h1 h2 hk
    obtain ⟨k, rfl⟩ : ∃ m, k = m + 1 := ⟨k - 1, by omega⟩
    refine ⟨-1, ?_, Or.inl ⟨rfl, fun j h3 h4 => by omega⟩⟩
    simp only [laws_at.l0]
    rw [wrap_in (x := i + (t.size : Int)) (by omega) (by omega), if_neg (by omega)]
  | succ d ih =>
    intro k i h0 h1 h2 hk
    obtain ⟨k, rfl⟩ : ∃ m, k = m + 1 := ⟨k - 1, by omega⟩
    simp only [laws_at.l0]
    rw [wrap_in (x := i + (t.size : Int)) (by omega) (by omega)]
    by_cases hle : i + (t.size : Int) ≤ s.size
    · rw [if_pos hle, if_pos h0, if_pos (by omega)]
      by_cases e : Occ s t i
      · exact ⟨i, by rw [if_pos e], Or.inr ⟨by omega, hle, e⟩⟩
      · rw [if_neg e, wrap_in (x := i + 1) (by omega) (by omega)]
        obtain ⟨r, hr, h⟩ := ih k (i + 1) (by omega) (by omega) (by omega) (by omega)
        refine ⟨r, hr, ?_⟩
        rcases h with ⟨ha, hb⟩ | ⟨ha, hb, hc⟩
        · refine Or.inl ⟨ha, fun j h3 h4 => ?_⟩
          by_cases ej : j = i
          · rw [ej]; exact e
          · exact hb j (by omega) h4
        · exact Or.inr ⟨by omega, hb, hc⟩
    · exact ⟨-1, by rw [if_neg hle], Or.inl ⟨rfl, fun j h3 h4 => by omega⟩⟩

/-- The three parts that belong to a place. -/
def A (s : ByteArray) (r : Int) : ByteArray := if r = -1 then ⟨#[]⟩ else s.extract 0 r.toNat
def B (s t : ByteArray) (r : Int) : ByteArray := if r = -1 then ⟨#[]⟩ else s.extract r.toNat (r + (t.size : Int)).toNat
def C (s t : ByteArray) (r : Int) : ByteArray := if r = -1 then s else s.extract (r + (t.size : Int)).toNat s.size

theorem parts (s t : ByteArray) (hs : s.size ≤ 4096) (ht : t.size ≤ 4096) (k : Nat) (hk : 5000 < k) :
    ∃ r : Int, impl_LastPartition.f k s t = some (A s r, B s t r, C s t r) ∧ ((r = -1 ∧ ∀ j, 0 ≤ j → j ≤ (s.size : Int) - t.size → ¬ Occ s t j) ∨ (0 ≤ r ∧ r ≤ (s.size : Int) - t.size ∧ Occ s t r ∧ ∀ j, r < j → j ≤ (s.size : Int) - t.size → ¬ Occ s t j)) := by
  obtain ⟨r, hr, h⟩ := last_tells s t hs ht 4999 k ((s.size : Int) - t.size) (by omega) (by omega) (by omega)
  refine ⟨r, ?_, h⟩
  unfold impl_LastPartition.f xstrings_LastPartition.f xstrings_zzLastIndex.f
  rw [wrap_in (x := (s.size : Int) - t.size) (by omega) (by omega), hr]
  simp only [Option.bind_some]
  by_cases e : r = -1
  · subst e; rfl
  · have hin : 0 ≤ r ∧ r ≤ (s.size : Int) - t.size := by
      rcases h with ⟨ha, _⟩ | ⟨ha, hb, _⟩
      · exact absurd ha e
      · exact ⟨ha, hb⟩
    obtain ⟨h0, h1⟩ := hin
    rw [if_neg e, if_pos h0, if_pos (by omega), wrap_in (x := r + (t.size : Int)) (by omega) (by omega), if_pos (by omega), if_pos (by omega), if_pos (by omega)]
    simp only [Option.bind_some, A, B, C, if_neg e]

theorem fin (s t : ByteArray) (hs : s.size ≤ 4096) (ht : t.size ≤ 4096) (r : Int)
    (h : (r = -1 ∧ ∀ j, 0 ≤ j → j ≤ (s.size : Int) - t.size → ¬ Occ s t j) ∨ (0 ≤ r ∧ r ≤ (s.size : Int) - t.size ∧ Occ s t r ∧ ∀ j, r < j → j ≤ (s.size : Int) - t.size → ¬ Occ s t j)) (k : Nat) :
    laws_FnLastPartition.l0 (k + 1) s t (A s r) (B s t r) (C s t r) r (-1) = some true := by
  rw [laws_FnLastPartition.l0]
  rw [if_neg (by omega)]
  rcases h with ⟨rfl, _⟩ | ⟨ha, hb, hc, _⟩
  · simp [A, B, C]
  · have e : r ≠ -1 := by omega
    have hc' : (s.extract r.toNat (r + (t.size : Int)).toNat).toList = t.toList := hc
    simp only [A, B, C, if_neg e]
    rw [if_neg (by omega), if_pos ha, if_pos (by omega), if_pos trivial, if_pos hc', wrap_in (x := r + (t.size : Int)) (by omega) (by omega), if_pos (by omega), if_pos (by omega)]
    simp

theorem loop (s t : ByteArray) (hs : s.size ≤ 4096) (ht : t.size ≤ 4096) (r : Int)
    (h : (r = -1 ∧ ∀ j, 0 ≤ j → j ≤ (s.size : Int) - t.size → ¬ Occ s t j) ∨ (0 ≤ r ∧ r ≤ (s.size : Int) - t.size ∧ Occ s t r ∧ ∀ j, r < j → j ≤ (s.size : Int) - t.size → ¬ Occ s t j)) (d : Nat) :
    ∀ (k : Nat) (x11 x12 : Int), 0 ≤ x12 → x12 + t.size ≤ s.size → Occ s t x12 → (s.size : Int) - x12 < d → d + 6000 < k →
    laws_FnLastPartition.l0 k s t (A s r) (B s t r) (C s t r) x11 x12 = some true := by
  induction d with
  | zero =>
    intro k x11 x12 h0 h1 ho hd hk
    omega
  | succ d ih =>
    intro k x11 x12 h0 h1 ho hd hk
    obtain ⟨k, rfl⟩ : ∃ m, k = m + 1 := ⟨k - 1, by omega⟩
    rw [laws_FnLastPartition.l0]
    rw [if_pos h0, wrap_in (x := x12 + 1) (by omega) (by omega)]
    obtain ⟨q, hq, hh⟩ := at_tells s t hs ht 4999 k (x12 + 1) (by omega) (by omega) (by omega) (by omega)
    unfold laws_at.f
    rw [hq]
    simp only [Option.bind_some]
    rcases hh with ⟨rfl, hb⟩ | ⟨ha, hb, hc⟩
    · have e : x12 = r := by
        rcases h with ⟨_, hd'⟩ | ⟨hd', he, hf, hg⟩
        · exact absurd ho (hd' x12 h0 (by omega))
        · by_cases l1 : r < x12
          · exact absurd ho (hg x12 l1 (by omega))
          · by_cases l2 : x12 = r
            · exact l2
            · exact absurd hf (hb r (by omega) (by omega))
      rw [e]
      obtain ⟨k, rfl⟩ : ∃ m, k = m + 1 := ⟨k - 1, by omega⟩
      exact fin s t hs ht r h k
    · exact ih k x12 q (by omega) hb hc (by omega) (by omega)

theorem hello (k : Nat) (hk : 10 ≤ k) : impl_LastPartition.f k (⟨#[104, 101, 108, 108, 111]⟩ : ByteArray) (⟨#[108]⟩ : ByteArray) = some (⟨#[104, 101, 108]⟩, ⟨#[108]⟩, ⟨#[111]⟩) :=
  at_rounds (impl_LastPartition.mono _ _) hk (by decide +kernel)

theorem rest (s t : ByteArray) (hs : s.size ≤ 4096) (ht : t.size ≤ 4096) (k : Nat) (hk : 20000 < k) : laws_FnLastPartition.j2 (k + 1) s t false = some true := by
  rw [laws_FnLastPartition.j2]
  rw [if_neg (by simp)]
  obtain ⟨r, hr, h⟩ := parts s t hs ht k (by omega)
  rw [hr]
  simp only [Option.bind_some]
  obtain ⟨q, hq, hh⟩ := at_tells s t hs ht 4999 k 0 (by omega) (by omega) (by omega) (by omega)
  unfold laws_at.f
  rw [hq]
  simp only [Option.bind_some]
  rcases hh with ⟨rfl, hb⟩ | ⟨ha, hb, hc⟩
  · have e : r = -1 := by
      rcases h with ⟨hd', _⟩ | ⟨hd', he, hf, hg⟩
      · exact hd'
      · exact absurd hf (hb r hd' (by omega))
    subst e
    obtain ⟨k, rfl⟩ : ∃ m, k = m + 1 := ⟨k - 1, by omega⟩
    exact fin s t hs ht (-1) h k
  · exact loop s t hs ht r h 4999 k (-1) q ha hb hc (by omega) (by omega)

theorem yes (s t : ByteArray) (k : Nat) : laws_FnLastPartition.j2 (k + 1) s t true = some true := by rw [laws_FnLastPartition.j2]; rfl

theorem FnLastPartition : laws_FnLastPartition.Pure := by
  intro s t _ _
  suffices hj : ∀ b k, 20000 < k → laws_FnLastPartition.j0 (k + 1 + 1 + 1) s t b = some true by
    refine ⟨20001 + 1 + 1 + 1, ?_⟩
    unfold laws_FnLastPartition.f
    split
    · exact hj _ _ (by omega)
    · exact hj _ _ (by omega)
  intro b k hk
  rw [laws_FnLastPartition.j0]
  cases b
  · rw [if_neg (by simp), hello _ (by omega)]
    simp only [Option.bind_some]
    rw [if_pos (by decide +kernel), if_pos (by decide +kernel), laws_FnLastPartition.j1, if_neg (by decide +kernel)]
    simp only [laws_long.f, Option.bind_some]
    by_cases c1 : (s.size : Int) > 4096
    · rw [if_pos (by simpa using c1)]; exact yes s t k
    · rw [if_neg (by simpa using c1)]
      by_cases c2 : (t.size : Int) > 4096
      · rw [if_pos (by simpa using c2)]; exact yes s t k
      · rw [if_neg (by simpa using c2)]
        cases c3 : (t.toList == ([] : List UInt8))
        · exact rest s t (by omega) (by omega) k hk
        · exact yes s t k
  · rw [if_pos rfl]

end Go.Proofs.Ytphfbhljnlbhhaa.Pure
