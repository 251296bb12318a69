/- A pattern's characters and the translator: plain laws. No program is in sight. -/
import Derived.Test.YtbomlhhpokknaaaDoorTFin
import Derived.Test.YtbomlhhpokknaaaDoorTHas
namespace Go.Proofs.YtbomlhhpokknaaaDoor
open Go.Lib U8

theorem hd_ne {x : UInt8} {t : List UInt8} {n : Nat} (h : x.toNat = n) (hn : n ≠ 94) : isRev (x :: t) = false := by
  unfold isRev
  rw [List.head?_cons]
  apply beq_eq_false_iff_ne.2
  intro e
  cases e
  exact hn (by rw [← h]; rfl)
theorem rev_enc (c : Nat) (r : List Nat) (hc : Sc c) : isRev (enc (c :: r)) = (c == 94) := by
  by_cases e : c = 94
  · subst e; rfl
  rw [beq_eq_false_iff_ne.2 e, enc_cons]
  unfold Sc at hc
  by_cases h1 : c < 128
  · rw [enc1_a h1]; exact hd_ne (byte_of (n := c) (by omega) (by omega)) e
  by_cases h2 : c < 2048
  · rw [enc1_b (by omega) h2]; exact hd_ne (byte_of (n := 192 + c / 64) (by omega) (by omega)) (by omega)
  by_cases h3 : c < 65536
  · rw [enc1_c (by omega)]; exact hd_ne (byte_of (n := 224 + c / 4096) (by omega) (by omega)) (by omega)
  · rw [enc1_d (by omega) (by omega)]; exact hd_ne (byte_of (n := 240 + c / 262144) (by omega) (by omega)) (by omega)
theorem rev_not (ps : List Nat) (hs : Scs ps) (h : ps ≠ []) : isRev (enc ps) = notOf false ps ∧ (if isRev (enc ps) then (enc ps).drop 1 else enc ps) = enc (if notOf false ps then ps.drop 1 else ps) := by
  cases ps with
  | nil => exact absurd rfl h
  | cons c r =>
    rw [rev_enc c r hs.head]
    have e : notOf false (c :: r) = (c == 94) := by
      unfold notOf
      rw [List.head?_cons]
      by_cases h : c = 94
      · subst h; rfl
      · rw [beq_eq_false_iff_ne.2 h, Bool.not_false, Bool.true_and]; exact beq_eq_false_iff_ne.2 (fun q => h (by cases q; rfl))
    rw [e]
    refine ⟨rfl, ?_⟩
    by_cases h : c = 94
    · subst h; rfl
    · rw [beq_eq_false_iff_ne.2 h]; rfl
theorem enc_nonnil {ps : List Nat} (h : ps ≠ []) : enc ps ≠ [] := fun e => h (enc_ne e)
/-- The translator of two patterns. -/
theorem newTr_of (ps : List Nat) (hs : Scs ps) (hne : ps ≠ []) (q : List UInt8) : newTr (enc ps) q = ⟨(final (outer (enc (if notOf false ps then ps.drop 1 else ps)).length Tr.nil (cu0 (notOf false ps) q) (-1) (enc (if notOf false ps then ps.drop 1 else ps)))).1,
    if q = [] ∨ notOf false ps = true then (final (outer (enc (if notOf false ps then ps.drop 1 else ps)).length Tr.nil (cu0 (notOf false ps) q) (-1) (enc (if notOf false ps then ps.drop 1 else ps)))).2.st else -1, notOf false ps, decide (q = []), true⟩ := by
  obtain ⟨h1, h2⟩ := rev_not ps hs hne
  unfold newTr
  rw [if_neg (enc_nonnil hne)]
  dsimp only
  rw [h2, h1]
/-- WHAT IT HOLDS. -/
theorem held (ps : List Nat) (hs : Scs ps) {L : List Nat} (h : pat false ps = some L) (c0 : Cu) {Z : List Int} (hZ : Sh c0 Z) :
    Inv (nth Z) (final (outer (enc (if notOf false ps then ps.drop 1 else ps)).length Tr.nil c0 (-1) (enc (if notOf false ps then ps.drop 1 else ps)))).1 (cast L) := by
  obtain ⟨ts, ho, hr, hv⟩ := pat_toks h
  rw [← hr]
  have hsc : Scs (raws ts) := by
    rw [hr]
    split
    · exact hs.drop 1
    · exact hs
  have k := outer_inv (nth Z) (enc (raws ts)).length Tr.nil c0 (-1) (enc (raws ts)) [] (vals ts) (Nat.le_refl _) (.inl ⟨rfl, ts, ho, hsc, rfl, rfl⟩) ⟨Inv.nil _, Z, hZ, fun j => by rw [List.length_nil, Nat.zero_add]⟩
  rw [List.nil_append] at k
  rw [hv]
  exact k
theorem cast_mem {L : List Nat} {c : Nat} : (c : Int) ∈ cast L ↔ c ∈ L := by
  unfold cast
  rw [List.mem_map]
  constructor
  · rintro ⟨n, hn, e⟩
    have : n = c := by omega
    subst this; exact hn
  · intro h; exact ⟨c, h, rfl⟩
theorem Inv.look_mem {mm : Nat → Int} {T : Tr} {L : List Nat} (h : Inv mm T (cast L)) (c : Nat) : (T.look (c : Int)).isSome = L.any (· == c) := by
  by_cases hm : c ∈ L
  · rw [h.has _ (cast_mem.2 hm)]
    exact (List.any_eq_true.2 ⟨c, hm, by simp⟩).symm
  · have e : L.any (· == c) = false := by
      rw [List.any_eq_false]
      intro x hx hc
      have : x = c := by simpa using hc
      subst this
      exact hm hx
    rw [e]
    cases hl : T.look (c : Int) with
    | none => rfl
    | some v =>
      obtain ⟨i, hi, _⟩ := h.val hl
      exact absurd (cast_mem.1 (List.mem_of_getElem? hi)) hm
/-- COUNT's and DELETE's law: a character matches if it is in the set. -/
theorem hit_law (ps : List Nat) (hs : Scs ps) (hne : ps ≠ []) {L : List Nat} (h : pat false ps = some L) (c : Nat) : (newTr (enc ps) []).hit (c : Int) = inS L (notOf false ps) c := by
  have hz : Sh (cu0 (notOf false ps) []) [65533] := by unfold cu0; rw [if_pos rfl]; exact .inl ⟨rfl, rfl⟩
  have k := held ps hs h _ hz
  rw [newTr_of ps hs hne []]
  unfold Tx.hit
  dsimp only
  rw [k.look_mem c]
  unfold inS
  cases notOf false ps <;> cases L.any (· == c) <;> rfl
theorem pat_nil (tt : Bool) {L : List Nat} (h : pat tt [] = some L) : L = [] := by
  cases tt <;> (cases h; rfl)

end Go.Proofs.YtbomlhhpokknaaaDoor
