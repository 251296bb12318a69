/- Plain: what a text of comments, a key and a value tells. No program is in sight. -/
import Derived.Test.YtgbfphaccjjdnaaGreatDoorLxLoadP
import Derived.Test.YtgbfphaccjjdnaaGreatDoorLxHelp
namespace Go.Proofs.YtgbfphaccjjdnaaGreatDoor
open Go.RowKit U8
open Go.Lib hiding intOf

def natL (l : List UInt8) : List Nat := l.map UInt8.toNat
theorem natL_app (a b : List UInt8) : natL (a ++ b) = natL a ++ natL b := by simp [natL]
theorem rns_asc : ∀ (l : List UInt8), (∀ b ∈ l, b.toNat < 128) → rns l = natL l
  | [], _ => rfl
  | b :: l, h => by
    have h1 := rns_cons [b] l b.toNat (by simp) (decodeL_ascii b l (h b (by simp)))
    rw [List.singleton_append] at h1
    rw [h1, rns_asc l (fun x hx => h x (by simp [hx]))]
    rfl
theorem encA_asc : ∀ (l : List UInt8), (∀ b ∈ l, b.toNat < 128) → encA (natL l) = l
  | [], _ => rfl
  | b :: l, h => by
    have hb := h b (by simp)
    have e : (Utf8.encode (b.toNat : Int)).data.toList = [b] := by
      have hv : Utf8.valid (b.toNat : Int) = true := by
        unfold Utf8.valid
        simp
        omega
      unfold Utf8.encode
      simp only [hv, if_true, Int.toNat_natCast]
      rw [if_pos hb]
      simp
    show (Utf8.encode (b.toNat : Int)).data.toList ++ encA (natL l) = _
    rw [e, encA_asc l (fun x hx => h x (by simp [hx]))]
    rfl
/-- A character of a key or a value that is simple. -/
def alnR (r : Nat) : Bool := decide ((48 ≤ r ∧ r ≤ 57) ∨ (65 ≤ r ∧ r ≤ 90) ∨ (97 ≤ r ∧ r ≤ 122))
theorem aln_bits {r : Nat} (h : alnR r = true) : r ≠ 92 ∧ eolR r = false ∧ cmtR r = false ∧ wsR r = false ∧ endR r = false ∧ r ≠ 10 ∧ r < 128 := by
  have := of_decide_eq_true h
  simp [eolR, cmtR, wsR, endR]
  omega
theorem keyF_aln : ∀ (k : List Nat) (n : Nat) (acc t : List Nat), (∀ x ∈ k, alnR x = true) → k.length < n → keyF n acc (k ++ 61 :: t) = some (acc ++ k, 61 :: t)
  | [], n + 1, acc, t, _, _ => by
    rw [List.nil_append, keyF]
    simp [endR]
  | r :: k, n + 1, acc, t, h, hn => by
    obtain ⟨h1, _, _, _, h5, _⟩ := aln_bits (h r (by simp))
    rw [List.cons_append, keyF, if_neg h1, h5]
    simp only [Bool.false_eq_true, if_false]
    rw [keyF_aln k n (acc ++ [r]) t (fun x hx => h x (by simp [hx])) (by simp at hn; omega)]
    simp
theorem valF_aln : ∀ (k : List Nat) (n : Nat) (acc t : List Nat), (∀ x ∈ k, alnR x = true) → k.length < n → valF n acc (k ++ 10 :: t) = some (acc ++ k, t, false)
  | [], n + 1, acc, t, _, _ => by
    rw [List.nil_append, valF_eol n acc 10 t (by decide) (by decide), List.append_nil]
  | r :: k, n + 1, acc, t, h, hn => by
    obtain ⟨h1, h2, _⟩ := aln_bits (h r (by simp))
    rw [List.cons_append, valF_on n acc r _ h1 h2, valF_aln k n (acc ++ [r]) t (fun x hx => h x (by simp [hx])) (by simp at hn; omega)]
    simp
theorem cmtF_line : ∀ (c acc t : List Nat), (∀ x ∈ c, eolR x = false) → cmtF acc (c ++ 10 :: t) = (acc ++ c, some t)
  | [], acc, t, _ => by rw [List.nil_append, cmtF]; simp [eolR]
  | r :: c, acc, t, h => by
    rw [List.cons_append, cmtF, h r (by simp)]
    simp only [Bool.false_eq_true, if_false]
    rw [cmtF_line c (acc ++ [r]) t (fun x hx => h x (by simp [hx]))]
    simp
theorem dropWs_hard {r : Nat} (t : List Nat) (h : wsR r = false) : dropWs (r :: t) = r :: t := by
  unfold dropWs
  rw [List.dropWhile_cons, h]; rfl
theorem lex_kv (n : Nat) (k v t : List Nat) (hk : ∀ x ∈ k, alnR x = true) (hv : ∀ x ∈ v, alnR x = true) (hk0 : k ≠ []) (hv0 : v ≠ []) :
    lexM (n + 4) 0 (k ++ 61 :: (v ++ 10 :: t)) = (2, encA k) :: (3, encA v) :: lexM n 0 t := by
  obtain ⟨r, k, rfl⟩ : ∃ r k', k = r :: k' := by cases k with | nil => exact absurd rfl hk0 | cons r k => exact ⟨r, k, rfl⟩
  obtain ⟨x, v, rfl⟩ : ∃ r k', v = r :: k' := by cases v with | nil => exact absurd rfl hv0 | cons r k => exact ⟨r, k, rfl⟩
  obtain ⟨h1, h2, h3, h4, h5, _⟩ := aln_bits (hk r (by simp))
  obtain ⟨x1, x2, x3, x4, x5, _⟩ := aln_bits (hv x (by simp))
  have e0 : lexM (n + 4) 0 (r :: k ++ 61 :: (x :: v ++ 10 :: t)) = lexM (n + 3) 2 (r :: k ++ 61 :: (x :: v ++ 10 :: t)) := by
    rw [List.cons_append, lexM, h2, h3, h4]; rfl
  have e1 : lexM (n + 3) 2 (r :: k ++ 61 :: (x :: v ++ 10 :: t)) = (2, encA (r :: k)) :: lexM (n + 2) 3 (61 :: (x :: v ++ 10 :: t)) := by
    rw [lexM, keyF_aln (r :: k) _ [] (x :: v ++ 10 :: t) hk (by simp; omega)]
    simp
  have e2 : lexM (n + 2) 3 (61 :: (x :: v ++ 10 :: t)) = lexM (n + 1) 4 (x :: v ++ 10 :: t) := by
    rw [lexM]
    congr 1
    unfold bvS
    rw [dropWs_hard _ (show wsR 61 = false by decide)]
    show dropWs (if ((61 : Nat) == 58 || (61 : Nat) == 61) = true then x :: v ++ 10 :: t else _) = _
    rw [if_pos (by decide), List.cons_append, dropWs_hard _ x4]
  have e3 : lexM (n + 1) 4 (x :: v ++ 10 :: t) = (3, encA (x :: v)) :: lexM n 0 t := by
    rw [show (4 : Nat) = 0 + 4 from rfl, lexM, valF_aln (x :: v) _ [] t hv (by simp; omega)]
    simp
  rw [e0, e1, e2, e3]
theorem lex_cmt (n : Nat) (b : Bool) (c t : List Nat) (hc : ∀ x ∈ c, eolR x = false) (h0 : ∃ x c', c = x :: c' ∧ wsR x = false) :
    lexM (n + 2) 0 ((if b then [33] else [35, 32]) ++ (c ++ 10 :: t)) = (4, encA c) :: lexM n 0 t := by
  obtain ⟨x, c, rfl, hx⟩ := h0
  have e1 : ∀ u, dropWs u = x :: c ++ 10 :: t → lexM (n + 1) 1 u = (4, encA (x :: c)) :: lexM n 0 t := by
    intro u hu
    rw [lexM, hu, cmtF_line (x :: c) [] t hc]
    simp
  cases b with
  | true =>
    show lexM (n + 2) 0 (33 :: (x :: c ++ 10 :: t)) = _
    rw [lexM, show eolR 33 = false by decide, show cmtR 33 = true by decide]
    exact e1 _ (by rw [List.cons_append, dropWs_hard _ hx])
  | false =>
    show lexM (n + 2) 0 (35 :: 32 :: (x :: c ++ 10 :: t)) = _
    rw [lexM, show eolR 35 = false by decide, show cmtR 35 = true by decide]
    refine e1 _ ?_
    unfold dropWs
    rw [List.dropWhile_cons, if_pos (by decide), List.cons_append]
    exact dropWs_hard _ hx
def sgnAt (l : List Bool) (i : Nat) : Bool := (l[i % l.length]?).getD false
def preN (b : Bool) : List UInt8 := if b then [33] else [35, 32]
def noteS (l : List Bool) : Nat → List (List UInt8) → List UInt8
  | _, [] => []
  | i, c :: t => preN (sgnAt l i) ++ (c ++ ([10] ++ noteS l (i + 1) t))
/-- A comment that is looked at. -/
def okN (c : List UInt8) : Prop := c ≠ [] ∧ (c.head? == some 32) = false ∧ c.all vis = true
theorem vis_bits {b : UInt8} (h : vis b = true) : 32 ≤ b.toNat ∧ b.toNat < 127 := of_decide_eq_true h
theorem okN_nat {c : List UInt8} (h : okN c) : (∀ x ∈ natL c, eolR x = false) ∧ (∃ x c', natL c = x :: c' ∧ wsR x = false) ∧ ∀ b ∈ c, b.toNat < 128 := by
  obtain ⟨h0, h1, h2⟩ := h
  have hv : ∀ b ∈ c, 32 ≤ b.toNat ∧ b.toNat < 127 := fun b hb => vis_bits (List.all_eq_true.1 h2 b hb)
  refine ⟨fun x hx => ?_, ?_, fun b hb => by have := hv b hb; omega⟩
  · obtain ⟨b, hb, rfl⟩ := List.mem_map.1 hx
    have := hv b hb
    simp [eolR]; omega
  · cases c with
    | nil => exact absurd rfl h0
    | cons b c =>
      refine ⟨b.toNat, natL c, rfl, ?_⟩
      have := hv b (by simp)
      have hne : b ≠ 32 := by
        intro e
        subst e
        simp at h1
      have hne2 : b.toNat ≠ 32 := fun e => hne (UInt8.toNat_inj.1 e)
      simp [wsR]; omega
theorem lex_notes (l : List Bool) : ∀ (cs : List (List UInt8)) (i n : Nat) (t : List Nat), (∀ c ∈ cs, okN c) → lexM (n + 2 * cs.length) 0 (natL (noteS l i cs) ++ t) = cs.map (fun c => (4, c)) ++ lexM n 0 t
  | [], i, n, t, _ => rfl
  | c :: cs, i, n, t, h => by
    obtain ⟨h1, h2, h3⟩ := okN_nat (h c (by simp))
    have e : natL (noteS l i (c :: cs)) ++ t = (if sgnAt l i then [33] else [35, 32]) ++ (natL c ++ 10 :: (natL (noteS l (i + 1) cs) ++ t)) := by
      rw [noteS, natL_app, natL_app, natL_app]
      cases sgnAt l i <;> simp [preN, natL]
    rw [e, show n + 2 * (c :: cs).length = (n + 2 * cs.length) + 2 by rw [List.length_cons]; omega, lex_cmt _ _ _ _ h1 h2, lex_notes l cs (i + 1) n t (fun x hx => h x (by simp [hx])), encA_asc c h3]
    rfl
theorem parse_cmts : ∀ (cs : List (List UInt8)) (t : List It) (kv : KV2) (cm : CS2) (co : List (List UInt8)), parseM (cs.map (fun c => ((4, c) : It)) ++ t) kv cm co = parseM t kv cm (co ++ cs)
  | [], t, kv, cm, co => by simp
  | c :: cs, t, kv, cm, co => by
    rw [List.map_cons, List.cons_append, parse_cmt, parse_cmts cs t kv cm (co ++ [c]), List.append_assoc]; rfl
def simple8 (l : List UInt8) : Prop := l ≠ [] ∧ ∀ b ∈ l, alnR b.toNat = true
theorem simple8_nat {l : List UInt8} (h : simple8 l) : (∀ x ∈ natL l, alnR x = true) ∧ natL l ≠ [] ∧ ∀ b ∈ l, b.toNat < 128 := by
  refine ⟨fun x hx => ?_, ?_, fun b hb => (aln_bits (h.2 b hb)).2.2.2.2.2.2⟩
  · obtain ⟨b, hb, rfl⟩ := List.mem_map.1 hx
    exact h.2 b hb
  · intro e
    exact h.1 (List.map_eq_nil_iff.1 e)
def notesS (l : List Bool) (cs : List (List UInt8)) (k v : List UInt8) : List UInt8 := [122, 61, 121, 10] ++ (noteS l 0 cs ++ (k ++ ([61] ++ (v ++ [10]))))
theorem noteS_asc (l : List Bool) : ∀ (cs : List (List UInt8)) (i : Nat), (∀ c ∈ cs, okN c) → ∀ b ∈ noteS l i cs, b.toNat < 128
  | [], i, _, b, hb => by cases hb
  | c :: cs, i, h, b, hb => by
    rw [noteS] at hb
    rcases List.mem_append.1 hb with hb | hb
    · cases hs : sgnAt l i with
      | true => rw [hs] at hb; simp [preN] at hb; rw [hb]; decide
      | false => rw [hs] at hb; simp [preN] at hb; rcases hb with hb | hb <;> (rw [hb]; decide)
    · rcases List.mem_append.1 hb with hb | hb
      · exact (okN_nat (h c (by simp))).2.2 b hb
      · rcases List.mem_append.1 hb with hb | hb
        · simp at hb; rw [hb]; decide
        · exact noteS_asc l cs (i + 1) (fun x hx => h x (by simp [hx])) b hb
theorem noteS_len (l : List Bool) : ∀ (cs : List (List UInt8)) (i : Nat), 2 * cs.length ≤ (noteS l i cs).length + 0 ∨ cs = [] ∨ True
  | _, _ => .inr (.inr trivial)
theorem noteS_ge (l : List Bool) : ∀ (cs : List (List UInt8)) (i : Nat), cs.length ≤ (noteS l i cs).length
  | [], i => Nat.zero_le _
  | c :: cs, i => by
    have := noteS_ge l cs (i + 1)
    rw [noteS]
    simp only [List.length_append, List.length_cons, List.length_nil]
    omega
theorem plain_notes (l : List Bool) (cs : List (List UInt8)) (k v : List UInt8) (hc : ∀ c ∈ cs, okN c) (hk : simple8 k) (hv : simple8 v) (hz : k ≠ [122]) :
    ∃ p0, plainR (bomS (notesS l cs k v)) = some [p0, ⟨k, v, v, cs⟩] := by
  have hb : bomS (notesS l cs k v) = notesS l cs k v := by
    have h : hasPrefix (notesS l cs k v) [239, 187, 191] = false := rfl
    exact if_neg (Bool.eq_false_iff.1 h)
  obtain ⟨k1, k2, k3⟩ := simple8_nat hk
  obtain ⟨v1, v2, v3⟩ := simple8_nat hv
  have hasc : ∀ b ∈ notesS l cs k v, b.toNat < 128 := by
    intro b hb
    unfold notesS at hb
    rcases List.mem_append.1 hb with hb | hb
    · simp at hb
      rcases hb with rfl | rfl | rfl | rfl <;> decide
    · rcases List.mem_append.1 hb with hb | hb
      · exact noteS_asc l cs 0 hc b hb
      · rcases List.mem_append.1 hb with hb | hb
        · exact k3 b hb
        · rcases List.mem_append.1 hb with hb | hb
          · simp at hb; rw [hb]; decide
          · rcases List.mem_append.1 hb with hb | hb
            · exact v3 b hb
            · simp at hb; rw [hb]; decide
  have hrns := rns_asc _ hasc
  have hnat : natL (notesS l cs k v) = [122] ++ 61 :: ([121] ++ 10 :: (natL (noteS l 0 cs) ++ (natL k ++ 61 :: (natL v ++ 10 :: [])))) := by
    unfold notesS
    rw [natL_app, natL_app, natL_app, natL_app, natL_app]
    simp [natL]
  have hmu : mu 0 (natL (notesS l cs k v)) + 1 = ((((mu 0 (natL (notesS l cs k v)) + 1 - (4 + 2 * cs.length + 4 + 1)) + 1) + 4) + 2 * cs.length) + 4 := by
    have hge := noteS_ge l cs 0
    have : (natL (notesS l cs k v)).length ≥ 6 + cs.length := by
      unfold natL
      rw [List.length_map]
      unfold notesS
      simp only [List.length_append, List.length_cons, List.length_nil]
      omega
    unfold mu
    simp
    omega
  have hlex : lexT (notesS l cs k v) = (2, [122]) :: (3, [121]) :: (cs.map (fun c => ((4, c) : It)) ++ ((2, k) :: (3, v) :: [(1, [])])) := by
    unfold lexT
    rw [hrns, hmu]
    generalize mu 0 (natL (notesS l cs k v)) + 1 - (4 + 2 * cs.length + 4 + 1) = N
    rw [hnat, lex_kv _ [122] [121] _ (by decide) (by decide) (by simp) (by simp), lex_notes l cs 0 _ _ hc, lex_kv _ (natL k) (natL v) [] k1 v1 k2 v2, encA_asc k k3, encA_asc v v3]
    rfl
  have hparse : parseM (lexT (notesS l cs k v)) [] [] [] = some ([([122], [121]), (k, v)], putC [] k cs) := by
    rw [hlex, parse_kv, parse_cmts, parse_kv, parse_eof]
    have e1 : updA ([] : KV2) ([122], [121]) = [([122], [121])] := by simp [updA]
    have e2 : updA [(([122] : List UInt8), ([121] : List UInt8))] (k, v) = [([122], [121]), (k, v)] := by
      unfold updA
      rw [if_neg (by simpa using hz)]
      rfl
    have e3 : putC [] [122] [] = [] := rfl
    rw [e1, e2, e3, List.nil_append]
  refine ⟨mkP Prod.snd (putC [] k cs) ([122], [121]), ?_⟩
  rw [hb]
  unfold plainR
  rw [hparse]
  have e4 : cmOf (putC [] k cs) k = cs := by
    unfold putC
    split
    · rename_i h; rw [h]; rfl
    · unfold updA cmOf
      simp
  show some [_, mkP Prod.snd (putC [] k cs) (k, v)] = _
  unfold mkP
  simp only [e4]
set_option maxRecDepth 100000 in
theorem plain_c : plainR (bomS [35, 32, 99, 10, 97, 61, 98]) = some [⟨[97], [98], [98], [[99]]⟩] := by
  have hb : bomS [35, 32, 99, 10, 97, 61, 98] = [35, 32, 99, 10, 97, 61, 98] := by rfl
  have hl : lexT [35, 32, 99, 10, 97, 61, 98] = [(4, [99]), (2, [97]), (3, [98]), (1, [])] := by
    unfold lexT
    rw [rns_asc _ (by decide)]
    kernel_rfl
  rw [hb]
  unfold plainR
  rw [hl]
  rfl
end Go.Proofs.YtgbfphaccjjdnaaGreatDoor
