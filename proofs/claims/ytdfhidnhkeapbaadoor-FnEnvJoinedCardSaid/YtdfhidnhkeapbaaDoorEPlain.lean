/- Plain: a map out of pairs, the lines that it is written as, replacing a text. No program is in sight. -/
import Derived.Test.YtdfhidnhkeapbaaDoorPcs
import Derived.Sort.KeysCollected
import Derived.Lib.ItoaNum
import Derived.Lib.Join
import Derived.Lib.AtoiAll
namespace Go.Proofs.YtdfhidnhkeapbaaDoor.U8
open Go.Lib

abbrev KVs := List (List UInt8 × List UInt8)
def upd (kv : KVs) (p : List UInt8 × List UInt8) : KVs := if p.1 ∈ kv.map Prod.fst then kv.map (fun q => if q.1 = p.1 then p else q) else kv ++ [p]
def mapOf (l : KVs) : KVs := l.foldl upd []
def lasts : KVs → KVs
  | [] => []
  | p :: l => if p.1 ∈ l.map Prod.fst then lasts l else p :: lasts l
theorem lasts_cons (p : List UInt8 × List UInt8) (l : KVs) : lasts (p :: l) = if p.1 ∈ l.map Prod.fst then lasts l else p :: lasts l := rfl
theorem upd_mem (kv : KVs) (p x : List UInt8 × List UInt8) : x ∈ upd kv p ↔ x = p ∨ (x ∈ kv ∧ x.1 ≠ p.1) := by
  unfold upd
  split
  · rename_i h
    rw [List.mem_map]
    constructor
    · rintro ⟨q, hq, rfl⟩
      by_cases e : q.1 = p.1
      · rw [if_pos e]; exact .inl rfl
      · rw [if_neg e]; exact .inr ⟨hq, e⟩
    · rintro (rfl | ⟨h1, h2⟩)
      · obtain ⟨q, hq, e⟩ := List.mem_map.1 h
        exact ⟨q, hq, by rw [if_pos e]⟩
      · exact ⟨x, h1, by rw [if_neg h2]⟩
  · rename_i h
    rw [List.mem_append, List.mem_singleton]
    constructor
    · rintro (h1 | h1)
      · exact .inr ⟨h1, fun e => h (List.mem_map.2 ⟨x, h1, e⟩)⟩
      · exact .inl h1
    · rintro (h1 | ⟨h1, _⟩)
      · exact .inr h1
      · exact .inl h1
theorem upd_keys (kv : KVs) (p : List UInt8 × List UInt8) (h : (kv.map Prod.fst).Nodup) : ((upd kv p).map Prod.fst).Nodup := by
  unfold upd
  split
  · have : (kv.map fun q => if q.1 = p.1 then p else q).map Prod.fst = kv.map Prod.fst := by
      rw [List.map_map]
      apply List.map_congr_left
      intro q _
      simp only [Function.comp]
      split
      · rename_i e; exact e.symm
      · rfl
    rw [this]; exact h
  · rename_i hn
    rw [List.map_append, List.nodup_append]
    refine ⟨h, by simp, ?_⟩
    intro a ha b hb
    simp at hb
    subst hb
    intro e
    subst e
    exact hn ha
theorem foldl_keys (l : KVs) : ∀ kv : KVs, (kv.map Prod.fst).Nodup → ((l.foldl upd kv).map Prod.fst).Nodup := by
  induction l with
  | nil => intro kv h; exact h
  | cons p l ih => intro kv h; exact ih _ (upd_keys kv p h)
theorem foldl_mem (l : KVs) : ∀ (kv : KVs) (x : List UInt8 × List UInt8), x ∈ l.foldl upd kv ↔ (x ∈ kv ∧ x.1 ∉ l.map Prod.fst) ∨ x ∈ lasts l := by
  induction l with
  | nil => intro kv x; simp [lasts]
  | cons p l ih =>
    intro kv x
    rw [List.foldl_cons, ih, upd_mem]
    have hl : x ∈ lasts l → x.1 ∈ l.map Prod.fst := by
      have : ∀ l : KVs, x ∈ lasts l → x.1 ∈ l.map Prod.fst := by
        intro l
        induction l with
        | nil => intro h; cases h
        | cons q l ih =>
          intro h
          unfold lasts at h
          rw [List.map_cons, List.mem_cons]
          split at h
          · exact .inr (ih h)
          · rcases List.mem_cons.1 h with rfl | h
            · exact .inl rfl
            · exact .inr (ih h)
      exact this l
    rw [lasts_cons, List.map_cons, List.mem_cons, not_or]
    by_cases hp : p.1 ∈ l.map Prod.fst
    · rw [if_pos hp]
      constructor
      · rintro (⟨rfl | ⟨h1, h2⟩, h3⟩ | h)
        · exact absurd hp h3
        · exact .inl ⟨h1, h2, h3⟩
        · exact .inr h
      · rintro (⟨h1, h2, h3⟩ | h)
        · exact .inl ⟨.inr ⟨h1, h2⟩, h3⟩
        · exact .inr h
    · rw [if_neg hp, List.mem_cons]
      constructor
      · rintro (⟨rfl | ⟨h1, h2⟩, h3⟩ | h)
        · exact .inr (.inl rfl)
        · exact .inl ⟨h1, h2, h3⟩
        · exact .inr (.inr h)
      · rintro (⟨h1, h2, h3⟩ | rfl | h)
        · exact .inl ⟨.inr ⟨h1, h2⟩, h3⟩
        · exact .inl ⟨.inl rfl, hp⟩
        · exact .inr h
theorem lasts_keys : ∀ l : KVs, ((lasts l).map Prod.fst).Nodup ∧ ∀ x ∈ lasts l, x ∈ l
  | [] => ⟨List.nodup_nil, fun x h => h⟩
  | p :: l => by
    obtain ⟨h1, h2⟩ := lasts_keys l
    unfold lasts
    split
    · exact ⟨h1, fun x hx => List.mem_cons_of_mem _ (h2 x hx)⟩
    · rename_i hp
      refine ⟨?_, fun x hx => ?_⟩
      · rw [List.map_cons, List.nodup_cons]
        refine ⟨fun h => hp ?_, h1⟩
        obtain ⟨q, hq, e⟩ := List.mem_map.1 h
        exact List.mem_map.2 ⟨q, h2 q hq, e⟩
      · rcases List.mem_cons.1 hx with rfl | hx
        · exact List.mem_cons_self
        · exact List.mem_cons_of_mem _ (h2 x hx)
theorem nodup_of_keys {l : KVs} (h : (l.map Prod.fst).Nodup) : l.Nodup := by
  induction l with
  | nil => exact List.nodup_nil
  | cons p l ih =>
    rw [List.map_cons, List.nodup_cons] at h
    rw [List.nodup_cons]
    exact ⟨fun hp => h.1 (List.mem_map.2 ⟨p, hp, rfl⟩), ih h.2⟩
theorem perm_of_mem {a b : KVs} (ha : (a.map Prod.fst).Nodup) (hb : (b.map Prod.fst).Nodup) (h : ∀ x, x ∈ a ↔ x ∈ b) : a.Perm b :=
  (List.perm_ext_iff_of_nodup (nodup_of_keys ha) (nodup_of_keys hb)).2 h
theorem mapOf_perm (l : KVs) : (mapOf l).Perm (lasts l) := by
  refine perm_of_mem (foldl_keys l [] List.nodup_nil) (lasts_keys l).1 fun x => ?_
  unfold mapOf
  rw [foldl_mem]
  simp
theorem lasts_self : ∀ l : KVs, (l.map Prod.fst).Nodup → lasts l = l
  | [], _ => rfl
  | p :: l, h => by
    rw [List.map_cons, List.nodup_cons] at h
    unfold lasts
    rw [if_neg h.1, lasts_self l h.2]
/-- A map of the same pairs in another order. -/
theorem mapOf_any {l M : KVs} (h : M.Perm (lasts l)) : (mapOf M).Perm (mapOf l) := by
  have hk : (M.map Prod.fst).Nodup := (h.map Prod.fst).nodup_iff.2 (lasts_keys l).1
  have h1 := mapOf_perm M
  rw [lasts_self M hk] at h1
  exact h1.trans (h.trans (mapOf_perm l).symm)

/-- The first place of a text in another one. -/
def idxZ (sub : List UInt8) : List UInt8 → Option Nat
  | [] => if sub.isPrefixOf [] then some 0 else none
  | b :: t => if sub.isPrefixOf (b :: t) then some 0 else (idxZ sub t).map (· + 1)
theorem idxZ_at (sub s : List UInt8) (h : sub.isPrefixOf s = true) : idxZ sub s = some 0 := by cases s <;> simp only [idxZ, h, if_true]
theorem idxZ_next (sub : List UInt8) (b : UInt8) (t : List UInt8) (h : sub.isPrefixOf (b :: t) = false) : idxZ sub (b :: t) = (idxZ sub t).map (· + 1) := by simp [idxZ, h]
theorem prefix_len {sub s : List UInt8} (h : sub.isPrefixOf s = true) : sub.length ≤ s.length := (List.isPrefixOf_iff_prefix.1 h).length_le
theorem idxZ_short : ∀ (s sub : List UInt8), s.length < sub.length → idxZ sub s = none
  | [], sub, h => by
    have : sub.isPrefixOf [] = false := by
      cases e : sub.isPrefixOf [] with
      | false => rfl
      | true => have := prefix_len e; omega
    simp [idxZ, this]
  | b :: t, sub, h => by
    have : sub.isPrefixOf (b :: t) = false := by
      cases e : sub.isPrefixOf (b :: t) with
      | false => rfl
      | true => have := prefix_len e; omega
    rw [idxZ_next _ _ _ this, idxZ_short t sub (by rw [List.length_cons] at h; omega)]; rfl
theorem idxZ_some : ∀ (s sub : List UInt8) (i : Nat), idxZ sub s = some i → i + sub.length ≤ s.length ∧ s.drop i = sub ++ s.drop (i + sub.length)
  | [], sub, i, h => by
    unfold idxZ at h
    split at h
    · rename_i hp
      have := prefix_len hp
      have e : sub = [] := List.eq_nil_of_length_eq_zero (by simpa using this)
      subst e
      simp at h
      subst h
      simp
    · cases h
  | b :: t, sub, i, h => by
    unfold idxZ at h
    split at h
    · rename_i hp
      simp at h
      subst h
      have h1 := prefix_len hp
      obtain ⟨u, hu⟩ := List.isPrefixOf_iff_prefix.1 hp
      refine ⟨by omega, ?_⟩
      rw [Nat.zero_add, List.drop_zero, ← hu, List.drop_left]
    · cases e : idxZ sub t with
      | none => rw [e] at h; cases h
      | some j =>
        rw [e] at h
        simp at h
        subst h
        obtain ⟨h1, h2⟩ := idxZ_some t sub j e
        refine ⟨by rw [List.length_cons]; omega, ?_⟩
        rw [List.drop_succ_cons, h2, show j + 1 + sub.length = (j + sub.length) + 1 by omega, List.drop_succ_cons]
/-- Each instance of a text (that is not empty) replaced. -/
def repF (old new : List UInt8) : Nat → List UInt8 → List UInt8
  | 0, s => s
  | n + 1, s => match idxZ old s with | none => s | some i => s.take i ++ new ++ repF old new n (s.drop (i + old.length))
def repAll (s old new : List UInt8) : List UInt8 := repF old new (s.length + 1) s
theorem repF_fuel (old new : List UInt8) (ho : old ≠ []) : ∀ (n m : Nat) (s : List UInt8), s.length < n → s.length < m → repF old new n s = repF old new m s
  | 0, m, s, h, _ => by omega
  | n + 1, 0, s, _, h => by omega
  | n + 1, m + 1, s, h1, h2 => by
    unfold repF
    have hl := List.length_pos_iff.2 ho
    cases e : idxZ old s with
    | none => rfl
    | some i =>
      have h3 := (idxZ_some s old i e).1
      simp only
      rw [repF_fuel old new ho n m _ (by rw [List.length_drop]; omega) (by rw [List.length_drop]; omega)]
theorem repAll_none (s old new : List UInt8) (h : idxZ old s = none) : repAll s old new = s := by unfold repAll repF; rw [h]
theorem repAll_some (s old new : List UInt8) (i : Nat) (ho : old ≠ []) (h : idxZ old s = some i) : repAll s old new = s.take i ++ new ++ repAll (s.drop (i + old.length)) old new := by
  have h3 := (idxZ_some s old i h).1
  have hl := List.length_pos_iff.2 ho
  unfold repAll
  rw [repF, h]
  simp only
  rw [repF_fuel old new ho s.length ((s.drop (i + old.length)).length + 1) _ (by rw [List.length_drop]; omega) (by omega)]
theorem repF_len (old new : List UInt8) (ho : old ≠ []) (hn : new.length ≤ 2) : ∀ (n : Nat) (s : List UInt8), (repF old new n s).length ≤ 2 * s.length
  | 0, s => by unfold repF; omega
  | n + 1, s => by
    unfold repF
    have hl := List.length_pos_iff.2 ho
    cases e : idxZ old s with
    | none => simp only; omega
    | some i =>
      have h3 := (idxZ_some s old i e).1
      have ih := repF_len old new ho hn n (s.drop (i + old.length))
      rw [List.length_drop] at ih
      simp only [List.length_append, List.length_take]
      omega
theorem repAll_len (s old new : List UInt8) (ho : old ≠ []) (hn : new.length ≤ 2) : (repAll s old new).length ≤ 2 * s.length := repF_len old new ho hn _ s
def escNew (c : Nat) : List UInt8 := if c = 10 then [92, 110] else if c = 13 then [92, 114] else [92, c.toUInt8]
def esc1 (s : List UInt8) (c : Nat) : List UInt8 := repAll s [c.toUInt8] (escNew c)
def escSet : List Nat := [92, 10, 13, 34, 33, 36, 96]
def escD (s : List UInt8) : List UInt8 := escSet.foldl esc1 s
theorem esc1_len (s : List UInt8) (c : Nat) : (esc1 s c).length ≤ 2 * s.length := repAll_len _ _ _ (by simp) (by unfold escNew; split; · simp
                                                                                                                 split <;> simp)
theorem escD_len (s : List UInt8) : (escD s).length ≤ 128 * s.length := by
  have : ∀ (l : List Nat) (s : List UInt8), (l.foldl esc1 s).length ≤ 2 ^ l.length * s.length := by
    intro l
    induction l with
    | nil => intro s; simp
    | cons c l ih =>
      intro s
      have h1 := ih (esc1 s c)
      have h2 := Nat.mul_le_mul_left (2 ^ l.length) (esc1_len s c)
      rw [List.foldl_cons, List.length_cons, Nat.pow_succ]
      have e : 2 ^ l.length * (2 * s.length) = 2 ^ l.length * 2 * s.length := by rw [Nat.mul_assoc]
      omega
  exact this escSet s
/-- A line of a map. -/
def lineE (p : List UInt8 × List UInt8) : List UInt8 :=
  match atoiAll p.2 with
  | .ok d => p.1 ++ [61] ++ itoa d
  | _ => p.1 ++ [61, 34] ++ escD p.2 ++ [34]
def wrE (kv : KVs) : List UInt8 := join ((kv.map lineE).mergeSort fun x y => decide (x ≤ y)) [10]
end Go.Proofs.YtdfhidnhkeapbaaDoor.U8
