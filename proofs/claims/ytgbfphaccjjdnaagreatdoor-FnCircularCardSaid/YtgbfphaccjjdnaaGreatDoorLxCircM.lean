/- Plain: a circle of references is an error, and so is an expression that does not end. No program is in sight. Plain: the three texts of FnCircular. No program is in sight. FnCircular: its walk. Conditions: the arguments' sizes, the tables that are laid. -/
import Derived.Test.YtgbfphaccjjdnaaGreatDoorLxExpand
import Derived.Test.YtgbfphaccjjdnaaGreatDoorLxNotesP
import Derived.Test.YtgbfphaccjjdnaaGreatDoorLxLoadM
import Derived.Test.YtgbfphaccjjdnaaGreatDoorLxHelp
namespace Go.Proofs.YtgbfphaccjjdnaaGreatDoor
open Go.RowKit U8
open Go.Lib hiding intOf

theorem valF_eof : ∀ (v : List Nat) (n : Nat) (acc : List Nat), (∀ x ∈ v, x ≠ 92 ∧ eolR x = false) → v.length < n → valF n acc v = some (acc ++ v, [], true)
  | [], n + 1, acc, _, _ => by rw [List.append_nil]; rfl
  | r :: v, n + 1, acc, h, hn => by
    obtain ⟨h1, h2⟩ := h r (by simp)
    rw [valF_on n acc r v h1 h2, valF_eof v n (acc ++ [r]) (fun x hx => h x (by simp [hx])) (by simp at hn; omega)]
    simp
theorem valF_line : ∀ (v : List Nat) (n : Nat) (acc t : List Nat), (∀ x ∈ v, x ≠ 92 ∧ eolR x = false) → v.length < n → valF n acc (v ++ 10 :: t) = some (acc ++ v, t, false)
  | [], n + 1, acc, t, _, _ => by
    rw [List.nil_append, valF_eol n acc 10 t (by decide) (by decide), List.append_nil]
  | r :: v, n + 1, acc, t, h, hn => by
    obtain ⟨h1, h2⟩ := h r (by simp)
    rw [List.cons_append, valF_on n acc r _ h1 h2, valF_line v n (acc ++ [r]) t (fun x hx => h x (by simp [hx])) (by simp at hn; omega)]
    simp
theorem lex_key3 (n : Nat) (k u : List Nat) (x : Nat) (hk : ∀ x ∈ k, alnR x = true) (hk0 : k ≠ []) (hx : wsR x = false) :
    lexM (n + 3) 0 (k ++ 61 :: x :: u) = (2, encA k) :: lexM n 4 (x :: u) := by
  obtain ⟨r, k, rfl⟩ : ∃ r k', k = r :: k' := by cases k with | nil => exact absurd rfl hk0 | cons r k => exact ⟨r, k, rfl⟩
  obtain ⟨h1, h2, h3, h4, h5, _⟩ := aln_bits (hk r (by simp))
  have e0 : lexM (n + 3) 0 (r :: k ++ 61 :: x :: u) = lexM (n + 2) 2 (r :: k ++ 61 :: x :: u) := by
    rw [List.cons_append, lexM, h2, h3, h4]; rfl
  have e1 : lexM (n + 2) 2 (r :: k ++ 61 :: x :: u) = (2, encA (r :: k)) :: lexM (n + 1) 3 (61 :: x :: u) := by
    rw [lexM, keyF_aln (r :: k) _ [] (x :: u) hk (by simp; omega)]
    simp
  have e2 : lexM (n + 1) 3 (61 :: x :: u) = lexM n 4 (x :: u) := by
    rw [lexM]
    congr 1
    unfold bvS
    rw [dropWs_hard _ (show wsR 61 = false by decide)]
    show dropWs (if ((61 : Nat) == 58 || (61 : Nat) == 61) = true then x :: u else _) = _
    rw [if_pos (by decide), dropWs_hard _ hx]
  rw [e0, e1, e2]
/-- The text of one reference. -/
def refV (k : List UInt8) : List UInt8 := [36, 123] ++ (k ++ [125])
def circS (key : Nat → List UInt8) : Nat → Nat → List UInt8
  | _, 0 => []
  | i, n + 1 => key i ++ ([61] ++ (refV (key (i + 1)) ++ ([10] ++ circS key (i + 1) n)))
theorem ref_chars {k : List UInt8} (h : simple8 k) : ∀ x ∈ natL (refV k), x ≠ 92 ∧ eolR x = false := by
  intro x hx
  unfold refV at hx
  rw [natL_app, natL_app] at hx
  rcases List.mem_append.1 hx with hx | hx
  · simp [natL] at hx
    rcases hx with rfl | rfl <;> decide
  · rcases List.mem_append.1 hx with hx | hx
    · have := aln_bits ((simple8_nat h).1 x hx)
      exact ⟨this.1, this.2.1⟩
    · simp [natL] at hx
      subst hx; decide
theorem ref_asc {k : List UInt8} (h : simple8 k) : ∀ b ∈ refV k, b.toNat < 128 := by
  intro b hb
  unfold refV at hb
  rcases List.mem_append.1 hb with hb | hb
  · simp at hb
    rcases hb with rfl | rfl <;> decide
  · rcases List.mem_append.1 hb with hb | hb
    · exact (simple8_nat h).2.2 b hb
    · simp at hb; rw [hb]; decide
theorem circ_asc (key : Nat → List UInt8) (hk : ∀ i, simple8 (key i)) : ∀ (n i : Nat), ∀ b ∈ circS key i n, b.toNat < 128
  | 0, i, b, hb => by cases hb
  | n + 1, i, b, hb => by
    rw [circS] at hb
    rcases List.mem_append.1 hb with hb | hb
    · exact (simple8_nat (hk i)).2.2 b hb
    · rcases List.mem_append.1 hb with hb | hb
      · simp at hb; rw [hb]; decide
      · rcases List.mem_append.1 hb with hb | hb
        · exact ref_asc (hk (i + 1)) b hb
        · rcases List.mem_append.1 hb with hb | hb
          · simp at hb; rw [hb]; decide
          · exact circ_asc key hk n (i + 1) b hb
def pairsC (key : Nat → List UInt8) : Nat → Nat → KV2
  | _, 0 => []
  | i, n + 1 => (key i, refV (key (i + 1))) :: pairsC key (i + 1) n
theorem pairsC_len (key : Nat → List UInt8) : ∀ (n i : Nat), (pairsC key i n).length = n
  | 0, i => rfl
  | n + 1, i => by rw [pairsC, List.length_cons, pairsC_len key n (i + 1)]
theorem circ_lex (key : Nat → List UInt8) (hk : ∀ i, simple8 (key i)) : ∀ (n i m : Nat) (t : List Nat), lexM (m + 4 * n) 0 (natL (circS key i n) ++ t) = (pairsC key i n).flatMap (fun p => [((2, p.1) : It), (3, p.2)]) ++ lexM m 0 t
  | 0, i, m, t => rfl
  | n + 1, i, m, t => by
    obtain ⟨k1, k2, k3⟩ := simple8_nat (hk i)
    have hr := ref_chars (hk (i + 1))
    have hra := ref_asc (hk (i + 1))
    have e : natL (circS key i (n + 1)) ++ t = natL (key i) ++ 61 :: 36 :: (123 :: (natL (key (i + 1)) ++ [125]) ++ 10 :: (natL (circS key (i + 1) n) ++ t)) := by
      rw [circS, natL_app, natL_app, natL_app, natL_app]
      simp [natL, refV]
    have e2 : 36 :: (123 :: (natL (key (i + 1)) ++ [125]) ++ 10 :: (natL (circS key (i + 1) n) ++ t)) = natL (refV (key (i + 1))) ++ 10 :: (natL (circS key (i + 1) n) ++ t) := by
      unfold refV
      rw [natL_app, natL_app]
      simp [natL]
    rw [e, show m + 4 * (n + 1) = (m + 4 * n + 1) + 3 by omega, lex_key3 _ _ _ 36 k1 k2 (by decide), e2, show (4 : Nat) = 0 + 4 from rfl, lexM, valF_line _ _ [] _ hr (by simp; omega)]
    simp only [List.nil_append, Bool.false_eq_true, if_false]
    rw [circ_lex key hk n (i + 1) m t, encA_asc _ k3, encA_asc _ hra]
    rfl
theorem parse_pairs : ∀ (ps kv : KV2) (t : List It) (cs : CS2), ((kv ++ ps).map Prod.fst).Nodup → parseM (ps.flatMap (fun p => [((2, p.1) : It), (3, p.2)]) ++ t) kv cs [] = parseM t (kv ++ ps) cs []
  | [], kv, t, cs, _ => by simp
  | p :: ps, kv, t, cs, h => by
    have hn : p.1 ∉ kv.map Prod.fst := by
      rw [List.map_append, List.nodup_append] at h
      exact fun hm => h.2.2 _ hm p.1 (by simp) rfl
    have e : updA kv (p.1, p.2) = kv ++ [p] := by unfold updA; rw [if_neg hn]
    show parseM ((2, p.1) :: (3, p.2) :: (ps.flatMap (fun p => [((2, p.1) : It), (3, p.2)]) ++ t)) kv cs [] = _
    rw [parse_kv, e, show putC cs p.1 [] = cs from by unfold putC; rw [if_pos rfl], parse_pairs ps (kv ++ [p]) t cs (by rw [List.append_assoc]; exact h), List.append_assoc]
    rfl
theorem valOf_mem {kv : KV2} (hn : (kv.map Prod.fst).Nodup) {k v : List UInt8} (h : (k, v) ∈ kv) : valOf kv k = v := by
  unfold valOf
  cases hf : kv.find? (fun p => p.1 == k) with
  | none =>
    have := List.find?_eq_none.1 hf _ h
    simp at this
  | some p =>
    have hp := List.mem_of_find?_eq_some hf
    have hk : p.1 = k := by simpa using List.find?_some hf
    have : ∀ l : KV2, (l.map Prod.fst).Nodup → p ∈ l → (k, v) ∈ l → p.2 = v := by
      intro l
      induction l with
      | nil => intro _ h; cases h
      | cons q l ih =>
        intro hn h1 h2
        rw [List.map_cons, List.nodup_cons] at hn
        rcases List.mem_cons.1 h1 with h1 | h1
        · rcases List.mem_cons.1 h2 with h2 | h2
          · rw [h1, ← h2]
          · exact absurd (List.mem_map.2 ⟨_, h2, by rw [← h1, hk]⟩) hn.1
        · rcases List.mem_cons.1 h2 with h2 | h2
          · exact absurd (List.mem_map.2 ⟨_, h1, by rw [hk, ← h2]⟩) hn.1
          · exact ih hn.2 h1 h2
    exact this kv hn hp h
theorem idx_close : ∀ (k : List UInt8) (t : List UInt8), (∀ b ∈ k, b ≠ 125) → idxZ [125] (k ++ 125 :: t) = some k.length
  | [], t, _ => rfl
  | b :: k, t, h => by
    have hb := h b (by simp)
    have hp : ([125] : List UInt8).isPrefixOf (b :: (k ++ 125 :: t)) = false := by
      show ((125 : UInt8) == b && _) = false
      rw [beq_eq_false_iff_ne.2 (fun e => hb e.symm)]; rfl
    rw [List.cons_append, idxZ_next _ _ _ hp, idx_close k t (fun x hx => h x (by simp [hx]))]
    rfl
theorem idx_open : ∀ (k : List UInt8), (∀ b ∈ k, b ≠ 125) → idxZ [125] k = none
  | [], _ => rfl
  | b :: k, h => by
    have hb := h b (by simp)
    have hp : ([125] : List UInt8).isPrefixOf (b :: k) = false := by
      show ((125 : UInt8) == b && _) = false
      rw [beq_eq_false_iff_ne.2 (fun e => hb e.symm)]; rfl
    rw [idxZ_next _ _ _ hp, idx_open k (fun x hx => h x (by simp [hx]))]
    rfl
theorem simple_close {k : List UInt8} (h : simple8 k) : ∀ b ∈ k, b ≠ 125 := by
  rintro b hb rfl
  have := h.2 125 hb
  revert this
  decide
theorem nodup_sub {l m : List (List UInt8)} (h : l.Nodup) (hs : ∀ x ∈ l, x ∈ m) : l.length ≤ m.length := by
  induction l generalizing m with
  | nil => simp
  | cons x l ih =>
    rw [List.nodup_cons] at h
    have hx := hs x (by simp)
    have h2 := ih (m := m.erase x) h.2 (fun y hy => (List.mem_erase_of_ne (fun e => h.1 (by rw [← e]; exact hy))).2 (hs y (by simp [hy])))
    rw [List.length_erase_of_mem hx] at h2
    have := List.length_pos_of_mem hx
    rw [List.length_cons]; omega
/-- Values that are references to keys alone never come to an end but an error. -/
theorem circ_exD (kv : KV2) (hn : (kv.map Prod.fst).Nodup) (hv : ∀ p ∈ kv, ∃ q ∈ kv, p.2 = refV q.1) (hs : ∀ p ∈ kv, simple8 p.1) (hz : ∀ p ∈ kv, p.1.length ≤ 1000) (hl : kv.length ≤ 60) (N : Nat) :
    ∀ (d : Nat) (ks : List (List UInt8)) (q : List UInt8 × List UInt8), q ∈ kv → ks.Nodup → (∀ x ∈ ks, x ∈ kv.map Prod.fst) → kv.length + 1 ≤ ks.length + d → exD kv (N + 1) d ks (refV q.1) = some none
  | 0, ks, q, hq, hkn, hks, hd => by
    have := nodup_sub hkn hks
    rw [List.length_map] at this
    omega
  | d + 1, ks, q, hq, hkn, hks, hd => by
    have hkl := nodup_sub hkn hks
    rw [List.length_map] at hkl
    have hsz : (refV q.1).length ≤ 1003 := by
      have := hz q hq
      unfold refV
      simp only [List.length_append, List.length_cons, List.length_nil]
      omega
    unfold exD
    rw [if_neg (by omega)]
    unfold exL
    rw [if_neg (by omega)]
    have e1 : idxZ [36, 123] (refV q.1) = some 0 := idxZ_at _ _ rfl
    have e2 : (refV q.1).drop (0 + 2) = q.1 ++ 125 :: [] := rfl
    rw [e1]
    simp only
    rw [e2, idx_close _ _ (simple_close (hs q hq))]
    simp only
    rw [List.take_left]
    by_cases hin : q.1 ∈ ks
    · rw [if_pos hin]
    · rw [if_neg hin]
      obtain ⟨q2, hq2, e⟩ := hv q hq
      have hvo : valOf kv q.1 = refV q2.1 := by
        rw [← e]; exact valOf_mem hn hq
      rw [hvo, circ_exD kv hn hv hs hz hl N d (ks ++ [q.1]) q2 hq2 (by
        rw [List.nodup_append]
        exact ⟨hkn, by simp, fun a ha b hb => by simp at hb; subst hb; exact fun e => hin (e ▸ ha)⟩) (fun x hx => by
        rcases List.mem_append.1 hx with hx | hx
        · exact hks x hx
        · simp at hx; subst hx; exact List.mem_map.2 ⟨q, hq, rfl⟩) (by rw [List.length_append]; simp; omega)]

/-- The key at a place of a circle of keys. -/
def keyAt (L : List (List UInt8)) (i : Nat) : List UInt8 := (L[i % L.length]?).getD []
theorem pairsC_eq (key : Nat → List UInt8) : ∀ (n i : Nat), pairsC key i n = (List.range n).map fun j => (key (i + j), refV (key (i + j + 1)))
  | 0, i => rfl
  | n + 1, i => by
    rw [pairsC, pairsC_eq key n (i + 1), List.range_succ_eq_map, List.map_cons, List.map_map]
    congr 1
    refine List.map_congr_left fun j _ => ?_
    show (key (i + 1 + j), refV (key (i + 1 + j + 1))) = (key (i + (j + 1)), refV (key (i + (j + 1) + 1)))
    rw [show i + 1 + j = i + (j + 1) by omega]
theorem keyAt_mem {L : List (List UInt8)} (hL : 0 < L.length) (i : Nat) : keyAt L i ∈ L := by
  unfold keyAt
  have h := Nat.mod_lt i hL
  rw [List.getElem?_eq_getElem h]
  exact List.getElem_mem h
theorem keyAt_lt {L : List (List UInt8)} {i : Nat} (h : i < L.length) : keyAt L i = L[i] := by
  unfold keyAt
  rw [Nat.mod_eq_of_lt h, List.getElem?_eq_getElem h]; rfl
theorem pairs_fst (L : List (List UInt8)) : (pairsC (keyAt L) 0 L.length).map Prod.fst = L := by
  rw [pairsC_eq, List.map_map]
  apply List.ext_getElem
  · simp
  · intro i h1 h2
    simp only [List.getElem_map, List.getElem_range, Function.comp]
    rw [Nat.zero_add]
    exact keyAt_lt h2
theorem circ_len (key : Nat → List UInt8) : ∀ (n i : Nat), n ≤ (circS key i n).length
  | 0, i => Nat.zero_le _
  | n + 1, i => by
    have := circ_len key n (i + 1)
    rw [circS]
    simp only [List.length_append, List.length_cons, List.length_nil]
    omega
theorem bom_asc {l : List UInt8} (h : ∀ b ∈ l, b.toNat < 128) : bomS l = l := by
  cases l with
  | nil => rfl
  | cons b l =>
    have hb := h b (by simp)
    have hne : (239 : UInt8) ≠ b := by
      rintro rfl
      revert hb; decide
    have hp : hasPrefix (b :: l) [239, 187, 191] = false := by
      show ((239 : UInt8) == b && _) = false
      rw [beq_eq_false_iff_ne.2 hne]; rfl
    exact if_neg (Bool.eq_false_iff.1 hp)
section
variable (L : List (List UInt8)) (h0 : 0 < L.length) (h30 : L.length ≤ 30) (hs : ∀ x ∈ L, simple8 x) (hn : L.Nodup) (hz : ∀ x ∈ L, x.length ≤ 1000)
include h0 hs hn
theorem circ_parse : parseM (lexT (circS (keyAt L) 0 L.length)) [] [] [] = some (pairsC (keyAt L) 0 L.length, []) := by
  have hk : ∀ i, simple8 (keyAt L i) := fun i => hs _ (keyAt_mem h0 i)
  have hl := circ_len (keyAt L) L.length 0
  have hmu : mu 0 (natL (circS (keyAt L) 0 L.length)) + 1 = ((mu 0 (natL (circS (keyAt L) 0 L.length)) - 4 * L.length) + 1) + 4 * L.length := by
    unfold mu natL
    rw [List.length_map]
    simp
    omega
  have hlex : lexT (circS (keyAt L) 0 L.length) = (pairsC (keyAt L) 0 L.length).flatMap (fun p => [((2, p.1) : It), (3, p.2)]) ++ [(1, [])] := by
    unfold lexT
    rw [rns_asc _ (circ_asc _ hk _ _), hmu]
    generalize mu 0 (natL (circS (keyAt L) 0 L.length)) - 4 * L.length = M
    have := circ_lex (keyAt L) hk L.length 0 (M + 1) []
    rw [List.append_nil] at this
    rw [this]
    rfl
  rw [hlex, parse_pairs _ [] _ _ (by rw [List.nil_append, pairs_fst]; exact hn), parse_eof, List.nil_append]
include h30 hz
theorem circ_exs : ∀ p ∈ pairsC (keyAt L) 0 L.length, exD (pairsC (keyAt L) 0 L.length) 100 70 [p.1] p.2 = some none := by
  have hk : ∀ i, simple8 (keyAt L i) := fun i => hs _ (keyAt_mem h0 i)
  have hf := pairs_fst L
  have hlen := pairsC_len (keyAt L) L.length 0
  have hpm : ∀ p ∈ pairsC (keyAt L) 0 L.length, p.1 ∈ L := fun p hp => by
    rw [← hf]; exact List.mem_map.2 ⟨p, hp, rfl⟩
  have hv : ∀ p ∈ pairsC (keyAt L) 0 L.length, ∃ q ∈ pairsC (keyAt L) 0 L.length, p.2 = refV q.1 := by
    intro p hp
    rw [pairsC_eq] at hp
    obtain ⟨j, _, rfl⟩ := List.mem_map.1 hp
    have hm : keyAt L (0 + j + 1) ∈ (pairsC (keyAt L) 0 L.length).map Prod.fst := by rw [hf]; exact keyAt_mem h0 _
    obtain ⟨q, hq, e⟩ := List.mem_map.1 hm
    exact ⟨q, hq, by rw [e]⟩
  intro p hp
  obtain ⟨q, hq, e⟩ := hv p hp
  rw [e]
  exact circ_exD _ (by rw [hf]; exact hn) hv (fun p hp => hs _ (hpm p hp)) (fun p hp => hz _ (hpm p hp)) (by omega) 99 70 [p.1] q hq (by simp) (fun x hx => by simp at hx; subst hx; exact List.mem_map.2 ⟨p, hp, rfl⟩) (by simp; omega)
theorem circ_full : fullR 100 70 (bomS (circS (keyAt L) 0 L.length)) = none := by
  have hk : ∀ i, simple8 (keyAt L i) := fun i => hs _ (keyAt_mem h0 i)
  rw [bom_asc (circ_asc _ hk _ _)]
  unfold fullR
  rw [circ_parse L h0 hs hn]
  show (if (pairsC (keyAt L) 0 L.length).all _ = true then _ else none) = none
  rw [if_neg]
  intro h
  have hlen := pairsC_len (keyAt L) L.length 0
  obtain ⟨p, hp⟩ : ∃ p, p ∈ pairsC (keyAt L) 0 L.length := by
    cases hh : pairsC (keyAt L) 0 L.length with
    | nil => rw [hh] at hlen; simp at hlen; omega
    | cons p t => exact ⟨p, by simp⟩
  have h1 := List.all_eq_true.1 h p hp
  rw [circ_exs L h0 h30 hs hn hz p hp] at h1
  cases h1
theorem circ_ends : EndsT 100 70 (bomS (circS (keyAt L) 0 L.length)) := by
  have hk : ∀ i, simple8 (keyAt L i) := fun i => hs _ (keyAt_mem h0 i)
  rw [bom_asc (circ_asc _ hk _ _)]
  intro kv cs h p hp
  rw [circ_parse L h0 hs hn] at h
  cases h
  rw [circ_exs L h0 h30 hs hn hz p hp]
  intro e
  cases e
end
theorem circ_plain (L : List (List UInt8)) (h0 : 0 < L.length) (hs : ∀ x ∈ L, simple8 x) (hn : L.Nodup) : ∃ ps, plainR (bomS (circS (keyAt L) 0 L.length)) = some ps ∧ ps.length = L.length := by
  have hk : ∀ i, simple8 (keyAt L i) := fun i => hs _ (keyAt_mem h0 i)
  rw [bom_asc (circ_asc _ hk _ _)]
  unfold plainR
  rw [circ_parse L h0 hs hn]
  exact ⟨_, rfl, by rw [List.length_map, pairsC_len]⟩
/-- An expression that does not end. -/
def openS (k : List UInt8) : List UInt8 := k ++ ([61, 36, 123] ++ k)
theorem open_parse {k : List UInt8} (hk : simple8 k) : parseM (lexT (openS k)) [] [] [] = some ([(k, [36, 123] ++ k)], []) := by
  obtain ⟨k1, k2, k3⟩ := simple8_nat hk
  have hasc : ∀ b ∈ openS k, b.toNat < 128 := by
    intro b hb
    unfold openS at hb
    rcases List.mem_append.1 hb with hb | hb
    · exact k3 b hb
    · rcases List.mem_append.1 hb with hb | hb
      · simp at hb
        rcases hb with rfl | rfl | rfl <;> decide
      · exact k3 b hb
  have hnat : natL (openS k) = natL k ++ 61 :: 36 :: 123 :: natL k := by
    unfold openS
    rw [natL_app, natL_app]
    simp [natL]
  have hch : ∀ x ∈ (36 :: 123 :: natL k : List Nat), x ≠ 92 ∧ eolR x = false := by
    intro x hx
    simp only [List.mem_cons] at hx
    rcases hx with rfl | rfl | hx
    · decide
    · decide
    · have := aln_bits (k1 x hx)
      exact ⟨this.1, this.2.1⟩
  have hlex : lexT (openS k) = [(2, k), (3, [36, 123] ++ k), (1, [])] := by
    unfold lexT
    have hmu : mu 0 (natL (openS k)) + 1 = (mu 0 (natL (openS k)) - 4 + 1 + 1) + 3 := by
      have h4 : 4 ≤ mu 0 (natL (openS k)) := by unfold mu; simp
      omega
    rw [rns_asc _ hasc, hmu]
    generalize mu 0 (natL (openS k)) - 4 = M
    rw [hnat, lex_key3 _ _ _ 36 k1 k2 (by decide), show (4 : Nat) = 0 + 4 from rfl, lexM, valF_eof _ _ [] hch (by simp)]
    simp only [List.nil_append, if_true]
    rw [encA_asc k k3]
    have e : encA (36 :: 123 :: natL k) = [36, 123] ++ k := by
      have := encA_asc ([36, 123] ++ k) (fun b hb => by
        rcases List.mem_append.1 hb with hb | hb
        · simp at hb
          rcases hb with rfl | rfl <;> decide
        · exact k3 b hb)
      rw [natL_app] at this
      exact this
    rw [e]
  rw [hlex, parse_kv, parse_eof]
  have e1 : updA ([] : KV2) (k, [36, 123] ++ k) = [(k, [36, 123] ++ k)] := by simp [updA]
  rw [e1]
  rfl
theorem open_exD {k : List UInt8} (hk : simple8 k) (hz : k.length ≤ 1000) : exD [(k, [36, 123] ++ k)] 100 70 [k] ([36, 123] ++ k) = some none := by
  unfold exD
  rw [if_neg (by simp)]
  unfold exL
  rw [if_neg (by simp; omega)]
  have e1 : idxZ [36, 123] ([36, 123] ++ k) = some 0 := idxZ_at _ _ rfl
  have e2 : ([36, 123] ++ k).drop (0 + 2) = k := rfl
  rw [e1]
  simp only
  rw [e2, idx_open _ (simple_close hk)]
theorem open_bom {k : List UInt8} (hk : simple8 k) : bomS (openS k) = openS k := by
  refine bom_asc fun b hb => ?_
  obtain ⟨k1, k2, k3⟩ := simple8_nat hk
  unfold openS at hb
  rcases List.mem_append.1 hb with hb | hb
  · exact k3 b hb
  · rcases List.mem_append.1 hb with hb | hb
    · simp at hb
      rcases hb with rfl | rfl | rfl <;> decide
    · exact k3 b hb
theorem open_full {k : List UInt8} (hk : simple8 k) (hz : k.length ≤ 1000) : fullR 100 70 (bomS (openS k)) = none := by
  rw [open_bom hk]
  unfold fullR
  rw [open_parse hk]
  show (if List.all _ _ = true then _ else none) = none
  rw [if_neg]
  intro h
  have := List.all_eq_true.1 h (k, [36, 123] ++ k) (by simp)
  rw [open_exD hk hz] at this
  cases this
theorem open_ends {k : List UInt8} (hk : simple8 k) (hz : k.length ≤ 1000) : EndsT 100 70 (bomS (openS k)) := by
  rw [open_bom hk]
  intro kv cs h p hp
  rw [open_parse hk] at h
  cases h
  simp only [List.mem_cons, List.not_mem_nil, or_false] at hp
  subst hp
  rw [open_exD hk hz]
  intro e
  cases e

theorem sim_8c {l : List UInt8} (h : simB l = true) : simple8 l := by
  unfold simB at h
  rw [Bool.and_eq_true] at h
  refine ⟨?_, fun b hb => ?_⟩
  · rintro rfl
    have := of_decide_eq_true h.2
    simp at this
  · have h1 := List.all_eq_true.1 h.1 b hb
    simp [letN] at h1
    unfold alnR
    refine decide_eq_true ?_
    omega
theorem circ_snoc (key : Nat → List UInt8) : ∀ (n i : Nat), circS key i (n + 1) = circS key i n ++ (key (i + n) ++ ([61, 36, 123] ++ (key (i + n + 1) ++ [125, 10])))
  | 0, i => by simp [circS, refV]
  | n + 1, i => by
    rw [circS, circ_snoc key n (i + 1)]
    conv => rhs; rw [circS]
    rw [show i + 1 + n = i + (n + 1) by omega]
    simp
theorem resp_none {w : World} {e : Ending} {w' : World} (h : ResP w none e w') : e = .returned (.tuple #[.slice none 0 0, .bool false]) ∧ Below w.heap.size w w' := by
  obtain ⟨hb, ⟨_, rfl⟩ | ⟨_, _, hn, _⟩⟩ := h
  · exact ⟨rfl, hb⟩
  · cases hn
set_option maxHeartbeats 12800000 in
set_option maxRecDepth 100000 in
theorem law_circular (l0 : List (List UInt8)) (v0 : Value) (w : World) (t0 : Tx w v0 l0) (m0 : l0.length ≤ 9223372036854775807) (e0 : ∀ x ∈ l0, x.length ≤ 9223372036854775807) (hT : Tabs w) :
    Calls Tryz.prog 3 #[v0] w fun e w' => e = .returned (.bool true) ∧ Below w.heap.size w w' := by
  have CF := Lib.hid (fits_any l0 v0 w t0 m0 e0)
  have T0 := Lib.hid t0
  have HT := Lib.hid hT
  obtain ⟨ao, cap, rfl, _, _⟩ := t0
  clear e0 hT
  obtain ⟨F, hF⟩ : ∃ F, fitsB l0 = F := ⟨_, rfl⟩
  rw [hF] at CF
  cases F with
  | false =>
    clear hF
    go_enter Tryz.func3, Tryz.ntmps3
    go_wp2_with fail
    refine CF.out.mono ?_
    rintro e w1 ⟨rfl, hw⟩
    obtain rfl := hw.symm
    go_wp2
    go_ret
    exact ⟨rfl, Below.refl _ _⟩
  | true =>
    have hfz := fits_sz hF
    clear hF
    go_enter Tryz.func3, Tryz.ntmps3
    go_wp2_with fail
    refine CF.out.mono ?_
    rintro e w1 ⟨rfl, hw⟩
    obtain rfl := hw.symm
    clear CF
    go_wp2_with fail
    refine (loads_any w HT.out).mono ?_
    rintro e w2 ⟨rfl, hb2⟩
    have HB2 := Lib.hid hb2
    have hs2 := hb2.size
    clear hb2
    by_cases h00 : l0.length = 0
    · have h0i : ((l0.length : Int) == 0) = true := by rw [h00]; rfl
      have hl0 : l0 = [] := List.eq_nil_of_length_eq_zero h00
      clear h00
      go_wp2
      go_ret
      exact ⟨rfl, HB2.out⟩
    have h0i : ((l0.length : Int) == 0) = false := by simp; intro e; exact h00 (by rw [e]; rfl)
    have hpos : 0 < l0.length := by omega
    have HPOS := Lib.hid hpos
    clear h00 hpos
    by_cases h30 : (30 : Int) < l0.length
    · go_wp2
      go_ret
      exact ⟨rfl, HB2.out⟩
    go_wp2_with fail
    refine (size_any l0 _ w2 (T0.out.below HB2.out) hfz).mono ?_
    rintro e w3 ⟨rfl, hw3⟩
    obtain rfl := hw3.symm
    by_cases h600 : (600 : Int) < ((l0.length + szs l0 : Nat) : Int)
    · go_wp2
      go_ret
      exact ⟨rfl, HB2.out⟩
    have hsz : l0.length + szs l0 ≤ 600 := by omega
    have HTB := Lib.hid (T0.out.below HB2.out)
    obtain ⟨_, _, e1, _, hx0⟩ := HTB.out
    cases e1
    have HX0 := Lib.hid hx0
    clear hx0 m0
    obtain ⟨KY, hKY⟩ : ∃ K, keyAt l0 = K := ⟨_, rfl⟩
    have HKY := Lib.hid hKY
    clear hKY
    go_wp2
    go_loopg [3, 4, 5, 7, 34] (l0.length + 1) (fun gk v3 v4 v5 v7 v34 wr => ∃ (j : Nat) (S : List UInt8), v34 = .int .i64 j ∧ v3 = .string (txt S) ∧ j ≤ l0.length ∧ l0.length - j < gk ∧ S.length ≤ j * 1205 ∧ Hid (S = circS KY 0 j) ∧ Hid (∀ c ∈ l0.take j, simple8 c) ∧ Hid ((l0.take j).Nodup) ∧ wr = w2)
    case atStart => exact ⟨0, [], rfl, rfl, by omega, by omega, by simp, rfl, (fun c hc => by simp at hc), (by show List.Nodup _; simp), rfl⟩
    case round =>
      obtain ⟨j, S, rfl, rfl, hj, hg, hSl, HS, HOK, HND, hwr⟩ := hrel
      obtain rfl := hwr.symm
      by_cases hlt : j < l0.length
      · obtain ⟨g1, rfl⟩ : ∃ m, gk = m + 1 := ⟨gk - 1, by omega⟩
        have hx := List.getElem?_eq_getElem hlt
        have htk := List.take_succ_eq_append_getElem hlt
        have hky : KY j = l0[j] := by rw [← HKY.out]; exact keyAt_lt hlt
        generalize l0[j] = c at hx htk hky
        obtain ⟨gg, o1, rfl, cx⟩ := HX0.out j c hx
        have hcsz := szs_le hx
        have HTK := Lib.hid htk
        have HKJ := Lib.hid hky
        have hj2 : j ≤ cap := by have := HTB.out; obtain ⟨_, _, e, hh, _⟩ := this; cases e; omega
        clear hx htk hky
        go_wp2
        rename World => v9
        go_loopg [7, 43] (j + 1) (fun gk v7 v43 wr => ∃ i : Nat, v43 = .int .i64 i ∧ i ≤ j ∧ j - i < gk ∧ Hid (∀ x ∈ l0.take i, x ≠ c) ∧ Hid (wr = v9))
        case atStart => exact ⟨0, rfl, by omega, by omega, (fun x hx => by simp at hx), rfl⟩
        case round =>
          obtain ⟨i, rfl, hi, hg2, HNE, hwr⟩ := hrel
          obtain rfl := hwr.out.symm
          by_cases hlt2 : i < j
          · obtain ⟨gk, rfl⟩ : ∃ m, gk = m + 1 := ⟨gk - 1, by omega⟩
            have hil : i < l0.length := by omega
            have hq := List.getElem?_eq_getElem hil
            have htq := List.take_succ_eq_append_getElem hil
            generalize l0[i] = q at hq htq
            obtain ⟨_, _, e2, qx⟩ := HX0.out i q hq
            cases e2
            have HTQ := Lib.hid htq
            clear hq htq
            by_cases hqc : q = c
            · subst hqc
              have hee : ((txt q).toList == (txt q).toList) = true := by simp
              go_wp2
              go_ret
              exact ⟨rfl, HB2.out⟩
            · have hee : ((txt q).toList == (txt c).toList) = false := by rw [txt_toList, txt_toList]; exact beq_eq_false_iff_ne.2 hqc
              have HQC := Lib.hid hqc
              clear hqc
              go_wp2
              go_roundg gk
              case rel =>
                refine ⟨i + 1, by go_num, by omega, by omega, ?_, rfl⟩
                show ∀ _ _, _
                intro y hy
                rw [HTQ.out] at hy
                rcases List.mem_append.1 hy with hy | hy
                · exact HNE.out y hy
                · simp at hy; subst hy; exact HQC.out
              case measure => omega
          · have hij : i = j := by omega
            have HNJ : Hid (∀ x ∈ l0.take j, x ≠ c) := by rw [← hij]; exact HNE.out
            clear HNE hij
            go_wp2_with fail
            refine (simple_any c v9 (by omega)).mono ?_
            rintro e w3 ⟨rfl, hw3⟩
            obtain rfl := hw3.symm
            obtain ⟨SC, hSC⟩ : ∃ q, simB c = q := ⟨_, rfl⟩
            rw [hSC]
            cases SC with
            | false =>
              go_wp2
              go_ret
              exact ⟨rfl, HB2.out⟩
            | true =>
              have hsc := sim_8c hSC
              obtain ⟨q, hqd⟩ : ∃ q, (j + 1) % l0.length = q := ⟨_, rfl⟩
              have hql : q < l0.length := by rw [← hqd]; exact Nat.mod_lt _ HPOS.out
              have hne0 : ¬ ((l0.length : Int) = 0) := by omega
              have hposi : (0 : Int) < (l0.length : Int) := by omega
              have hr1 : ((j : Int) + 1) % (l0.length : Int) = (q : Int) := by rw [← hqd]; rfl
              have hr2 : ((j : Int) + 1).tmod (l0.length : Int) = (q : Int) := by rw [← hqd]; rfl
              have hnx := List.getElem?_eq_getElem hql
              have hkn : KY (j + 1) = l0[q] := by
                rw [← HKY.out]
                unfold keyAt
                rw [hqd, hnx]; rfl
              generalize l0[q] = nx at hnx hkn
              obtain ⟨_, _, e3, nxc⟩ := HX0.out q nx hnx
              cases e3
              have hnsz := szs_le hnx
              have HS2 : Hid (S ++ (c ++ ([61, 36, 123] ++ (nx ++ [125, 10]))) = circS KY 0 (j + 1)) := by
                show _ = _
                rw [circ_snoc, Nat.zero_add, HKJ.out, hkn, HS.out]
              have HOK2 : Hid (∀ c ∈ l0.take (j + 1), simple8 c) := by
                show ∀ _ _, _
                intro d hd
                rw [HTK.out] at hd
                rcases List.mem_append.1 hd with hd | hd
                · exact HOK.out d hd
                · simp at hd; subst hd; exact hsc
              have HND2 : Hid ((l0.take (j + 1)).Nodup) := by
                show List.Nodup _
                rw [HTK.out, List.nodup_append]
                exact ⟨HND.out, by simp, fun a ha b hb => by simp at hb; subst hb; exact HNJ.out a ha⟩
              have HAP : Hid (txt S ++ (txt c ++ ⟨#[61, 36, 123]⟩ ++ txt nx ++ ⟨#[125, 10]⟩) = txt (S ++ (c ++ ([61, 36, 123] ++ (nx ++ [125, 10]))))) := by
                show _ = _
                rw [show (⟨#[61, 36, 123]⟩ : ByteArray) = txt [61, 36, 123] from rfl, show (⟨#[125, 10]⟩ : ByteArray) = txt [125, 10] from rfl, txt_append, txt_append, txt_append, txt_append]
                simp
              have hts := txt_size c
              have htn := txt_size nx
              have htS := txt_size S
              have z1 : (txt c ++ ⟨#[61, 36, 123]⟩).size = c.length + 3 := by rw [show (⟨#[61, 36, 123]⟩ : ByteArray) = txt [61, 36, 123] from rfl, txt_append, txt_size, List.length_append]; rfl
              have z2 : (txt c ++ ⟨#[61, 36, 123]⟩ ++ txt nx).size = c.length + 3 + nx.length := by rw [show (⟨#[61, 36, 123]⟩ : ByteArray) = txt [61, 36, 123] from rfl, txt_append, txt_append, txt_size, List.length_append, List.length_append]; rfl
              have z3 : (txt c ++ ⟨#[61, 36, 123]⟩ ++ txt nx ++ ⟨#[125, 10]⟩).size = c.length + 3 + nx.length + 2 := by rw [show (⟨#[61, 36, 123]⟩ : ByteArray) = txt [61, 36, 123] from rfl, show (⟨#[125, 10]⟩ : ByteArray) = txt [125, 10] from rfl, txt_append, txt_append, txt_append, txt_size, List.length_append, List.length_append, List.length_append]; rfl
              have hlen2 : (S ++ (c ++ ([61, 36, 123] ++ (nx ++ [125, 10])))).length ≤ (j + 1) * 1205 := by
                simp only [List.length_append, List.length_cons, List.length_nil]
                omega
              have HL2 := Lib.hid hlen2
              clear hlen2 hSC hqd hnx hkn hsc
              go_wp2
              go_roundg g1
              case rel => exact ⟨j + 1, _, by go_num, congrArg Value.string HAP.out, by omega, by omega, HL2.out, HS2.out, HOK2.out, HND2.out, rfl⟩
              case measure => omega
      · have hjl : j = l0.length := by omega
        have HSA : Hid (∀ x ∈ l0, simple8 x) := by
          have := HOK.out
          rw [hjl, List.take_length] at this
          exact this
        have HNA : Hid (l0.Nodup) := by
          have := HND.out
          rw [hjl, List.take_length] at this
          exact this
        have HSF : Hid (S = circS (keyAt l0) 0 l0.length) := by
          show _ = _
          rw [HS.out, hjl, HKY.out]
        have hzall : ∀ x ∈ l0, x.length ≤ 1000 := by
          intro x hx
          obtain ⟨i, hi⟩ := List.getElem?_of_mem hx
          have := szs_le hi
          omega
        have h30n : l0.length ≤ 30 := by omega
        have hSl2 : S.length ≤ 50000 := by omega
        have C1 : Hid (Calls Tryz.prog 10 #[.string (txt S), .int .i64 1, .bool false] w2 (ResP w2 none)) := by
          have := loadP_full 100 (by decide) 70 S 1 w2 (.inr rfl) (HT.out.below HB2.out) hSl2 (by rw [HSF.out]; exact circ_ends l0 HPOS.out h30n HSA.out HNA.out hzall)
          rw [show fullR 100 70 (bomS S) = none by rw [HSF.out]; exact circ_full l0 HPOS.out h30n HSA.out HNA.out hzall] at this
          exact this
        obtain ⟨k0, hk0⟩ : ∃ k, l0[0]? = some k := ⟨_, List.getElem?_eq_getElem HPOS.out⟩
        have hk0s := HSA.out k0 (List.mem_of_getElem? hk0)
        have hk0z := hzall k0 (List.mem_of_getElem? hk0)
        have CO := Lib.hid fun W (hW : Below w.heap.size w W) => (show Calls Tryz.prog 10 #[.string (txt (openS k0)), .int .i64 1, .bool false] W (ResP W none) from by
          have := loadP_full 100 (by decide) 70 (openS k0) 1 W (.inr rfl) (HT.out.below hW) (by unfold openS; simp; omega) (open_ends hk0s hk0z)
          rw [open_full hk0s hk0z] at this
          exact this)
        obtain ⟨ps, hps, hpsl⟩ := circ_plain l0 HPOS.out HSA.out HNA.out
        have CP := Lib.hid fun W (hW : Below w.heap.size w W) => (show Calls Tryz.prog 10 #[.string (txt S), .int .i64 1, .bool true] W (ResP W (some ps)) from by
          have := loadP_plain S 1 W (.inr rfl) (HT.out.below hW) hSl2
          rw [show plainR (bomS S) = some ps by rw [HSF.out]; exact hps] at this
          exact this)
        obtain ⟨gg, o1, hao, cx⟩ := HX0.out 0 k0 hk0
        subst hao
        have HPL := Lib.hid hpsl
        clear hps hpsl hjl hk0s hk0 hzall
        go_wp2_with fail
        refine C1.out.mono ?_
        rintro e w3 h3
        obtain ⟨rfl, hb3⟩ := resp_none h3
        clear h3
        have HB3 := Lib.hid (HB2.out.trans (hb3.mono hs2))
        have c0 : w3.cell? ⟨gg, o1, none⟩ = some (.string (txt k0)) := by
          have h2 := (hb3.cell (World.block_lt_of_cell? w2 _ cx)).trans cx
          simpa using h2
        have hs3 := HB3.out.size
        have HOS : Hid (txt k0 ++ ⟨#[61, 36, 123]⟩ ++ txt k0 = txt (openS k0)) := by
          show _ = _
          rw [show (⟨#[61, 36, 123]⟩ : ByteArray) = txt [61, 36, 123] from rfl, txt_append, txt_append]
          unfold openS
          simp
        have htk := txt_size k0
        have z1 : (txt k0 ++ ⟨#[61, 36, 123]⟩).size = k0.length + 3 := by rw [show (⟨#[61, 36, 123]⟩ : ByteArray) = txt [61, 36, 123] from rfl, txt_append, txt_size, List.length_append]; rfl
        have hcap0 : 0 < l0.length := HPOS.out
        have q1 : ¬ (9223372036854775807 < k0.length + 3) := by omega
        have q2 : ¬ (9223372036854775807 < k0.length + 3 + k0.length) := by omega
        have q3 : ¬ (9223372036854775807 < (txt k0 ++ ⟨#[61, 36, 123]⟩).size + k0.length) := by rw [z1]; omega
        have CO2 : Hid (Calls Tryz.prog 10 #[.string (txt k0 ++ ⟨#[61, 36, 123]⟩ ++ txt k0), .int .i64 1, .bool false] w3.drew (ResP w3.drew none)) := by
          rw [HOS.out]; exact CO.out _ HB3.out.drew
        clear hb3 cx C1 CO
        go_upto_region 22 with fail
        go_region_law (go_simp; go_at_call 10; refine CO2.out.mono ?_; rintro e w4 h4; obtain ⟨rfl, hb4⟩ := resp_none h4; clear h4)
        all_goals
          have HB4 := Lib.hid (HB3.out.drew.trans (hb4.mono (by simpa using hs3)))
          have hs4 := HB4.out.size
          clear hb4
          go_wp2_with fail
          refine (CP.out w4 HB4.out).mono ?_
          rintro e w5 ⟨hb5, ⟨hn, _⟩ | ⟨ps2, v, hn, rfl, hpx⟩⟩
          · cases hn
          cases hn
          have HB5 := Lib.hid (HB4.out.trans (hb5.mono hs4))
          obtain ⟨qao, qcap, rfl, _, _⟩ := hpx
          have hll : ((ps.length : Int) == (l0.length : Int)) = true := by rw [HPL.out]; simp
          clear hb5
          go_wp2
          go_ret
          exact ⟨rfl, HB5.out⟩

end Go.Proofs.YtgbfphaccjjdnaaGreatDoor
