/- Plain: the properties that the items of a text make. No program is in sight. -/
import Derived.Test.YtdfhidnhkeapbaaGreatDoorLxPlain
namespace Go.Proofs.YtdfhidnhkeapbaaGreatDoor.U8
open Go.Lib

/-- A pair put among others: in its key's place, or behind them. -/
def updA {α : Type} (l : List (List UInt8 × α)) (p : List UInt8 × α) : List (List UInt8 × α) := if p.1 ∈ l.map Prod.fst then l.map (fun q => if q.1 = p.1 then p else q) else l ++ [p]
theorem updA_fst {α : Type} (kv : List (List UInt8 × α)) (p : List UInt8 × α) : (updA kv p).map Prod.fst = if p.1 ∈ kv.map Prod.fst then kv.map Prod.fst else kv.map Prod.fst ++ [p.1] := by
  unfold updA
  split
  · rw [List.map_map]
    refine List.map_congr_left fun q _ => ?_
    show (if q.1 = p.1 then p else q).1 = q.1
    split
    · rename_i h; exact h.symm
    · rfl
  · rw [List.map_append]; rfl
theorem updA_nodup {α : Type} {kv : List (List UInt8 × α)} (h : (kv.map Prod.fst).Nodup) (p : List UInt8 × α) : ((updA kv p).map Prod.fst).Nodup := by
  rw [updA_fst]
  split
  · exact h
  · rename_i hn
    rw [List.nodup_append]
    refine ⟨h, by simp, ?_⟩
    intro a ha b hb
    simp at hb
    subst hb
    intro e
    exact hn (e ▸ ha)
theorem updA_map {α β : Type} (f : α → β) (kv : List (List UInt8 × α)) (p : List UInt8 × α) : (updA kv p).map (fun q => (q.1, f q.2)) = updA (kv.map fun q => (q.1, f q.2)) (p.1, f p.2) := by
  have e : (kv.map fun q => (q.1, f q.2)).map Prod.fst = kv.map Prod.fst := by rw [List.map_map]; rfl
  unfold updA
  rw [e]
  split
  · rw [List.map_map, List.map_map]
    refine List.map_congr_left fun q _ => ?_
    show ((if q.1 = p.1 then p else q).1, f (if q.1 = p.1 then p else q).2) = if q.1 = p.1 then (p.1, f p.2) else (q.1, f q.2)
    split <;> rfl
  · rw [List.map_append]; rfl
theorem updA_len {α : Type} (kv : List (List UInt8 × α)) (p : List UInt8 × α) : (updA kv p).length ≤ kv.length + 1 := by
  unfold updA
  split
  · rw [List.length_map]; omega
  · simp
theorem updA_mem {α : Type} {kv : List (List UInt8 × α)} {p q : List UInt8 × α} (h : q ∈ updA kv p) : q = p ∨ q ∈ kv := by
  unfold updA at h
  split at h
  · obtain ⟨x, hx, rfl⟩ := List.mem_map.1 h
    split
    · exact .inl rfl
    · exact .inr hx
  · rcases List.mem_append.1 h with h | h
    · exact .inr h
    · exact .inl (by simpa using h)
abbrev KV2 := List (List UInt8 × List UInt8)
abbrev CS2 := List (List UInt8 × List (List UInt8))
def putC (cs : CS2) (k : List UInt8) (co : List (List UInt8)) : CS2 := if co = [] then cs else updA cs (k, co)
/-- The properties of items: keys with values, keys with comments; none: an error. -/
def parseM : List It → KV2 → CS2 → List (List UInt8) → Option (KV2 × CS2)
  | [], _, _, _ => none
  | x :: t, kv, cs, co =>
    if x.1 = 1 then some (kv, cs)
    else if x.1 = 4 then parseM t kv cs (co ++ [x.2])
    else if x.1 = 2 then
      (match t with
      | [] => none
      | y :: t2 => if y.1 = 1 then some (updA kv (x.2, []), putC cs x.2 co) else if y.1 = 3 then parseM t2 (updA kv (x.2, y.2)) (putC cs x.2 co) [] else none)
    else none
/-- Items that end. -/
def endB : List It → Bool
  | [] => false
  | x :: t => decide (x.1 ≤ 1) || endB t
theorem endB_cons {k : Nat} {v : List UInt8} {t : List It} (hk : 2 ≤ k) : endB ((k, v) :: t) = endB t := by
  show (decide (k ≤ 1) || endB t) = endB t
  rw [decide_eq_false (by omega), Bool.false_or]
theorem lexM_end : ∀ (n m : Nat) (rs : List Nat), mu m rs < n → endB (lexM n m rs) = true
  | 0, m, rs, h => by omega
  | n + 1, 0, [], h => rfl
  | n + 1, 0, r :: t, h => by
    rw [lexM]
    unfold mu at h
    simp only [List.length_cons] at h
    split
    · exact lexM_end n 0 t (by unfold mu; simp at h ⊢; omega)
    · split
      · exact lexM_end n 1 t (by unfold mu; simp at h ⊢; omega)
      · split
        · exact lexM_end n 0 t (by unfold mu; simp at h ⊢; omega)
        · exact lexM_end n 2 (r :: t) (by unfold mu; simp at h ⊢; omega)
  | n + 1, 1, rs, h => by
    rw [lexM]
    unfold mu at h
    split
    · rfl
    · rename_i c t he
      rw [endB_cons (by omega)]
      have h1 := cmtF_le _ _ _ _ he
      have h2 := dropWs_le rs
      exact lexM_end n 0 t (by unfold mu; simp at h ⊢; omega)
  | n + 1, 2, rs, h => by
    rw [lexM]
    unfold mu at h
    split
    · rfl
    · rename_i k t he
      have h1 := keyF_le _ _ _ _ _ he
      have hx : endB (if t = [] then [(1, [])] else lexM n 3 t) = true := by
        split
        · rfl
        · exact lexM_end n 3 t (by unfold mu; simp at h ⊢; omega)
      split
      · exact hx
      · rw [List.cons_append, List.nil_append, endB_cons (by omega)]; exact hx
  | n + 1, 3, rs, h => by
    rw [lexM]
    unfold mu at h
    have h1 := bvS_le rs
    exact lexM_end n 4 (bvS rs) (by unfold mu; simp at h ⊢; omega)
  | n + 1, m + 4, rs, h => by
    rw [lexM]
    unfold mu at h
    split
    · rfl
    · rename_i v t e he
      rw [endB_cons (by omega)]
      cases e with
      | true => rfl
      | false =>
        have h1 := valF_le _ _ _ _ _ he
        exact lexM_end n 0 t (by unfold mu; simp at h ⊢; omega)
theorem lexT_end (l : List UInt8) : endB (lexT l) = true := lexM_end _ _ _ (Nat.lt_succ_self _)
theorem encode_ne (r : Int) : (Utf8.encode r).data.toList ≠ [] := by
  unfold Utf8.encode
  intro h
  have h2 := congrArg List.length h
  revert h2
  simp only [List.length_nil]
  repeat' split
  all_goals simp
theorem encA_ne {k : List Nat} (h : k ≠ []) : encA k ≠ [] := by
  cases k with
  | nil => exact absurd rfl h
  | cons r k =>
    unfold encA
    rw [List.flatMap_cons]
    intro e
    exact encode_ne _ (List.append_eq_nil_iff.1 e).1
theorem lexM_keys : ∀ (n m : Nat) (rs : List Nat), ∀ i ∈ lexM n m rs, i.1 = 2 → i.2 ≠ []
  | 0, m, rs, i, hi, h2 => by simp [lexM] at hi
  | n + 1, 0, [], i, hi, h2 => by
    have : i = (1, []) := by simpa [lexM] using hi
    subst this; cases h2
  | n + 1, 0, r :: t, i, hi, h2 => by
    rw [lexM] at hi
    · split at hi
      · exact lexM_keys n _ _ i hi h2
      · split at hi
        · exact lexM_keys n _ _ i hi h2
        · split at hi
          · exact lexM_keys n _ _ i hi h2
          · exact lexM_keys n _ _ i hi h2
  | n + 1, 1, rs, i, hi, h2 => by
    rw [lexM] at hi
    split at hi
    · simp at hi; subst hi; cases h2
    · rcases List.mem_cons.1 hi with rfl | hi
      · cases h2
      · exact lexM_keys n _ _ i hi h2
  | n + 1, 2, rs, i, hi, h2 => by
    rw [lexM] at hi
    split at hi
    · simp at hi; subst hi; cases h2
    · rename_i k t he
      rcases List.mem_append.1 hi with hi | hi
      · split at hi
        · cases hi
        · rename_i hk
          simp at hi
          subst hi
          exact encA_ne hk
      · split at hi
        · simp at hi; subst hi; cases h2
        · exact lexM_keys n _ _ i hi h2
  | n + 1, 3, rs, i, hi, h2 => by
    rw [lexM] at hi
    exact lexM_keys n _ _ i hi h2
  | n + 1, m + 4, rs, i, hi, h2 => by
    rw [lexM] at hi
    split at hi
    · simp at hi; subst hi; cases h2
    · rcases List.mem_cons.1 hi with rfl | hi
      · cases h2
      · split at hi
        · simp at hi; subst hi; cases h2
        · exact lexM_keys n _ _ i hi h2
theorem putC_nodup {cs : CS2} (h : (cs.map Prod.fst).Nodup) (k : List UInt8) (co : List (List UInt8)) : ((putC cs k co).map Prod.fst).Nodup := by
  unfold putC
  split
  · exact h
  · exact updA_nodup h _
/-- Keys stand once and are not empty. -/
theorem parse_keys : ∀ (n : Nat) (its : List It) (kv kv' : KV2) (cs cs' : CS2) (co : List (List UInt8)), its.length ≤ n → (∀ i ∈ its, i.1 = 2 → i.2 ≠ []) → parseM its kv cs co = some (kv', cs') → (kv.map Prod.fst).Nodup → (∀ p ∈ kv, p.1 ≠ []) →
    (kv'.map Prod.fst).Nodup ∧ ∀ p ∈ kv', p.1 ≠ []
  | _, [], kv, kv', cs, cs', co, hl, hi, h, hn, hk => by simp [parseM] at h
  | 0, x :: t, kv, kv', cs, cs', co, hl, hi, h, hn, hk => by simp at hl
  | n + 1, x :: t, kv, kv', cs, cs', co, hl, hi, h, hn, hk => by
    simp only [List.length_cons] at hl
    have hput : ∀ v, x.1 = 2 → ((updA kv (x.2, v)).map Prod.fst).Nodup ∧ ∀ p ∈ updA kv (x.2, v), p.1 ≠ [] := fun v hx => ⟨updA_nodup hn _, fun p hp => by
      rcases updA_mem hp with rfl | hp
      · exact hi x (by simp) hx
      · exact hk p hp⟩
    unfold parseM at h
    split at h
    · simp at h; rw [← h.1]; exact ⟨hn, hk⟩
    · split at h
      · exact parse_keys n t kv kv' cs cs' _ (by omega) (fun i hm => hi i (by simp [hm])) h hn hk
      · split at h
        · rename_i hx
          split at h
          · cases h
          · rename_i y t2
            split at h
            · simp at h; rw [← h.1]; exact hput [] hx
            · split at h
              · obtain ⟨h1, h2⟩ := hput y.2 hx
                exact parse_keys n t2 _ kv' _ cs' _ (by simp at hl; omega) (fun i hm => hi i (by simp [hm])) h h1 h2
              · cases h
        · cases h
/-- The comments of a key. -/
def cmOf (cs : CS2) (k : List UInt8) : List (List UInt8) := match cs.find? (fun p => p.1 == k) with | some p => p.2 | none => []
theorem cmOf_hit {cs : CS2} {k : List UInt8} {co : List (List UInt8)} (hn : (cs.map Prod.fst).Nodup) (h : (k, co) ∈ cs) : cmOf cs k = co := by
  induction cs with
  | nil => cases h
  | cons x cs ih =>
    rw [List.map_cons, List.nodup_cons] at hn
    unfold cmOf
    rw [List.find?_cons]
    by_cases hx : (x.1 == k) = true
    · rw [hx]
      rcases List.mem_cons.1 h with h | h
      · rw [← h]
      · exact absurd (List.mem_map.2 ⟨_, h, (eq_of_beq hx).symm⟩) hn.1
    · rw [Bool.not_eq_true] at hx
      rw [hx]
      rcases List.mem_cons.1 h with h | h
      · rw [← h] at hx; simp at hx
      · exact ih hn.2 h
theorem cmOf_miss {cs : CS2} {k : List UInt8} (h : ∀ p ∈ cs, p.1 ≠ k) : cmOf cs k = [] := by
  unfold cmOf
  rw [List.find?_eq_none.2 (fun p hp => by simpa using h p hp)]
end Go.Proofs.YtdfhidnhkeapbaaGreatDoor.U8
