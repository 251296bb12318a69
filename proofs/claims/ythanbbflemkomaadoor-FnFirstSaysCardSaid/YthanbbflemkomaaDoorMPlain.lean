/- The plain part of the law FnXCamelSays: words of one case with single separators between them, what toCamelCase and the reference make of them. No program is in sight. -/
import Derived.Test.YthanbbflemkomaaDoorMTab
import Derived.Test.YthanbbflemkomaaDoorKTx
namespace Go.Proofs.YthanbbflemkomaaDoor
open Go.RowKit U8
open Go.Lib hiding intOf

def ltr (b : UInt8) : Bool := isCap b || isLow b
def sepX (b : UInt8) : Bool := decide (b.toNat = 32 ∨ b.toNat = 95 ∨ b.toNat = 45)
/-- The reference's words: those that are read, the one in hand, the rest. -/
def pt : List (List UInt8) → List UInt8 → List UInt8 → Option (List (List UInt8))
  | out, word, [] => if word = [] then none else some (out ++ [word])
  | out, word, c :: r => if sepX c then (if word = [] ∨ r = [] then none else pt (out ++ [word]) [] r) else if ltr c then pt out (word ++ [c]) r else none
/-- A word of one case: at least two letters of that case. -/
def Gd (k : Bool) (w : List UInt8) : Prop := 2 ≤ w.length ∧ ∀ b ∈ w, ltr b = true ∧ isCap b = k
def oneB (w : List UInt8) : Bool := decide (1 < w.length) && w.all fun b => decide (b.toNat < 97) == decide ((w.headD 0).toNat < 97)
def sameB (ws : List (List UInt8)) (w : List UInt8) : Bool := decide ((w.headD 0).toNat < 97) == decide (((ws.headD []).headD 0).toNat < 97)
def okW (ws : List (List UInt8)) : Bool := ws.all fun w => oneB w && sameB ws w
/-- What the reference makes of words. -/
def xw (great : Bool) (w : List UInt8) : List UInt8 := if great then tit (w.map toLo) else w.map toLo
def xcs (pascal : Bool) : List (List UInt8) → List UInt8
  | [] => []
  | w :: ws => xw pascal w ++ ws.flatMap (xw true)

theorem pt_out : ∀ (rest out : List _) (word : List UInt8), pt out word rest = (pt [] word rest).map (out ++ ·)
  | [], out, word => by unfold pt; split <;> simp
  | c :: r, out, word => by
    unfold pt
    split
    · split
      · rfl
      · rw [pt_out r (out ++ [word]), pt_out r ([] ++ [word])]
        cases pt [] [] r <;> simp
    · split
      · exact pt_out r out (word ++ [c])
      · rfl
theorem pt_split : ∀ (rest word : List UInt8) (ws : List (List UInt8)), (∀ b ∈ word, ltr b = true) → pt [] word rest = some ws → ∃ t ws2, ws = (word ++ t) :: ws2 ∧ word ++ t ≠ [] ∧ (∀ b ∈ t, ltr b = true) ∧
    ((rest = t ∧ ws2 = []) ∨ ∃ s rest', rest = t ++ s :: rest' ∧ sepX s = true ∧ pt [] [] rest' = some ws2)
  | [], word, ws, hw, h => by
    unfold pt at h
    split at h
    · cases h
    · rename_i h0
      cases h
      exact ⟨[], [], by simp, by simpa using h0, by simp, .inl ⟨rfl, rfl⟩⟩
  | c :: r, word, ws, hw, h => by
    unfold pt at h
    split at h
    · rename_i hs
      split at h
      · cases h
      · rename_i h0
        rw [pt_out] at h
        obtain ⟨ws2, h2, rfl⟩ := Option.map_eq_some_iff.1 h
        exact ⟨[], ws2, by simp, by simp at h0 ⊢; exact h0.1, by simp, .inr ⟨c, r, rfl, hs, h2⟩⟩
    · split at h
      · rename_i hl
        obtain ⟨t, ws2, e, hne, hlt, h2⟩ := pt_split r (word ++ [c]) ws (by intro b hb; rcases List.mem_append.1 hb with hb | hb; exact hw b hb; simp at hb; rw [hb]; exact hl) h
        refine ⟨c :: t, ws2, by rw [e]; simp, by simp, fun b hb => ?_, ?_⟩
        · rcases List.mem_cons.1 hb with rfl | hb
          · exact hl
          · exact hlt b hb
        · rcases h2 with ⟨rfl, rfl⟩ | ⟨s, rest', rfl, hs, h3⟩
          · exact .inl ⟨rfl, rfl⟩
          · exact .inr ⟨s, rest', rfl, hs, h3⟩
      · cases h

/-! ### characters -/
theorem ltr_nat {b : UInt8} (h : ltr b = true) : (65 ≤ b.toNat ∧ b.toNat ≤ 90) ∨ (97 ≤ b.toNat ∧ b.toNat ≤ 122) := by
  unfold ltr isCap isLow at h
  simpa using h
theorem ltr_conn {b : UInt8} (h : ltr b = true) : conn (b.toNat : Int) = false := by
  have h1 := ltr_nat h
  unfold conn isSpaceZ
  rw [beq_eq_false_iff_ne.2 (by omega), beq_eq_false_iff_ne.2 (by omega), if_pos (by omega)]
  have : isSpaceR b.toNat = false := by unfold isSpaceR; simp; omega
  simpa using this
theorem sep_conn {b : UInt8} (h : sepX b = true) : conn (b.toNat : Int) = true := by
  have h1 := of_decide_eq_true h
  rcases h1 with h1 | h1 | h1 <;> rw [h1] <;> decide
theorem enc_byte {b : UInt8} (h : b.toNat < 128) : encodeRune (b.toNat : Int) = [b] := by
  unfold encodeRune
  rw [encodeRuneZ_one (by omega) (by omega)]
  simp
theorem up_cap2 {b : UInt8} (h : b.toNat < 128) : isUpperU (b.toNat : Int) = isCap b := by
  unfold isUpperU latin1 isUpperL isCap
  rw [if_pos (by simp; omega)]
  exact decide_eq_decide.2 (by omega)
theorem tu_b {b : UInt8} (h : b.toNat < 128) : toUpperU (b.toNat : Int) = ((toUp b).toNat : Int) := by
  unfold toUpperU
  rw [if_pos (by omega), toUp_nat]
  split <;> split <;> omega
theorem tl_b {b : UInt8} (h : b.toNat < 128) : toLowerU (b.toNat : Int) = ((toLo b).toNat : Int) := by
  unfold toLowerU
  rw [if_pos (by omega), toLo_nat]
  split <;> split <;> omega
theorem ltr_lt {b : UInt8} (h : ltr b = true) : b.toNat < 128 := by have := ltr_nat h; omega
theorem sep_lt {b : UInt8} (h : sepX b = true) : b.toNat < 128 := by have := of_decide_eq_true h; omega
theorem lo_lo {b : UInt8} (h : ltr b = true) (hc : isCap b = false) : toLo b = b := by
  apply UInt8.toNat_inj.1
  have h1 := ltr_nat h
  have h2 := of_decide_eq_false hc
  rw [toLo_nat, if_neg h2]
theorem ltr_lo {b : UInt8} (h : ltr b = true) : ltr (toLo b) = true := by
  have h1 := ltr_nat h
  unfold ltr isCap isLow
  rw [toLo_nat]
  simp
  split <;> omega
theorem ltr_up {b : UInt8} (h : ltr b = true) : ltr (toUp b) = true := by
  have h1 := ltr_nat h
  unfold ltr isCap isLow
  rw [toUp_nat]
  simp
  split <;> omega
theorem up_lo2 (b : UInt8) : toUp (toLo b) = toUp b := by
  apply UInt8.toNat_inj.1
  rw [toUp_nat, toLo_nat, toUp_nat]
  repeat' split
  all_goals omega
def tn (l : List UInt8) : List Nat := l.map UInt8.toNat
theorem tn_cons (b : UInt8) (l : List UInt8) : tn (b :: l) = b.toNat :: tn l := rfl
theorem tn_app (a b : List UInt8) : tn (a ++ b) = tn a ++ tn b := by simp [tn]
/-- Inside a word. -/
theorem in_word {k : Bool} {s : UInt8} (hs : sepX s = true) (rest : List UInt8) : ∀ (t : List UInt8) (c : UInt8), ltr c = true → (∀ b ∈ t, ltr b = true ∧ isCap b = k) →
    xC k (c.toNat : Int) (tn (t ++ s :: rest)) = c :: t.map toLo ++ xC false (s.toNat : Int) (tn rest)
  | [], c, hc, _ => by
    rw [List.nil_append, tn_cons]
    have h1 : isUpperU (s.toNat : Int) = false := by
      rw [up_cap2 (sep_lt hs)]
      have := of_decide_eq_true hs
      exact decide_eq_false (by omega)
    cases k with
    | true => rw [xC_nu (ltr_conn hc) h1, enc_byte (ltr_lt hc)]; rfl
    | false => rw [xC_no (ltr_conn hc), enc_byte (ltr_lt hc)]; rfl
  | r :: t, c, hc, ht => by
    obtain ⟨hr1, hr2⟩ := ht r (by simp)
    have ih := in_word (k := k) hs rest t (toLo r) (ltr_lo hr1) (fun b hb => ht b (by simp [hb]))
    rw [List.cons_append, tn_cons]
    cases k with
    | true => rw [xC_up (ltr_conn hc) (by rw [up_cap2 (ltr_lt hr1), hr2]), enc_byte (ltr_lt hc), tl_b (ltr_lt hr1), ih]; rfl
    | false => rw [xC_no (ltr_conn hc), enc_byte (ltr_lt hc), ← lo_lo hr1 hr2, ih, lo_lo hr1 hr2]; simp [lo_lo hr1 hr2]
theorem end_word {k : Bool} : ∀ (t : List UInt8) (c : UInt8), ltr c = true → (∀ b ∈ t, ltr b = true ∧ isCap b = k) → xC k (c.toNat : Int) (tn t) = c :: t.map toLo
  | [], c, hc, _ => by show encodeRune _ = _; rw [enc_byte (ltr_lt hc)]; rfl
  | r :: t, c, hc, ht => by
    obtain ⟨hr1, hr2⟩ := ht r (by simp)
    have ih := end_word (k := k) t (toLo r) (ltr_lo hr1) (fun b hb => ht b (by simp [hb]))
    rw [tn_cons]
    cases k with
    | true => rw [xC_up (ltr_conn hc) (by rw [up_cap2 (ltr_lt hr1), hr2]), enc_byte (ltr_lt hc), tl_b (ltr_lt hr1), ih]; rfl
    | false => rw [xC_no (ltr_conn hc), enc_byte (ltr_lt hc), ← lo_lo hr1 hr2, ih, lo_lo hr1 hr2]; simp [lo_lo hr1 hr2]
/-- Behind a separator. -/
theorem words_run {k : Bool} : ∀ (n : Nat) (rest : List UInt8) (ws : List (List UInt8)) (s : UInt8), rest.length ≤ n → sepX s = true → pt [] [] rest = some ws → (∀ w ∈ ws, Gd k w) → xC false (s.toNat : Int) (tn rest) = ws.flatMap (xw true)
  | 0, rest, ws, s, hn, hs, h, hw => by
    obtain rfl : rest = [] := List.length_eq_zero_iff.1 (by omega)
    simp [pt] at h
  | n + 1, rest, ws, s, hn, hs, h, hw => by
    obtain ⟨t, ws2, e, hne, hlt, h2⟩ := pt_split rest [] ws (by simp) h
    rw [List.nil_append] at e hne
    match t, hne with
    | r :: t, _ =>
    have hg := hw (r :: t) (by rw [e]; simp)
    have hr := hg.2 r (by simp)
    have ht := fun b hb => hg.2 b (List.mem_cons_of_mem r hb)
    have hk : isUpperU (r.toNat : Int) = k := by rw [up_cap2 (ltr_lt hr.1), hr.2]
    have hx : toUp r :: t.map toLo = xw true (r :: t) := by unfold xw; rw [if_pos rfl]; show _ = toUp (toLo r) :: _; rw [up_lo2]
    rcases h2 with ⟨rfl, rfl⟩ | ⟨s2, rest', rfl, hs2, h3⟩
    · rw [tn_cons, xC_nc (ltr_conn hr.1) (sep_conn hs), hk, tu_b (ltr_lt hr.1), end_word t (toUp r) (ltr_up hr.1) ht, e, hx]
      simp
    · have ih := words_run n rest' ws2 s2 (by simp at hn; omega) hs2 h3 (fun w h => hw w (by rw [e]; simp [h]))
      rw [List.cons_append, tn_cons, xC_nc (ltr_conn hr.1) (sep_conn hs), hk, tu_b (ltr_lt hr.1), in_word hs2 rest' t (toUp r) (ltr_up hr.1) ht, e, ih, hx]
      simp
/-- WHAT toCamelCase MAKES OF WORDS OF ONE CASE. -/
theorem words_law {k : Bool} (big : Bool) (l : List UInt8) (ws : List (List UInt8)) (h : pt [] [] l = some ws) (hw : ∀ w ∈ ws, Gd k w) : xA big (tn l) = xcs big ws := by
  obtain ⟨t, ws2, e, hne, hlt, h2⟩ := pt_split l [] ws (by simp) h
  rw [List.nil_append] at e hne
  match t, hne with
  | r :: t, _ =>
  have hg := hw (r :: t) (by rw [e]; simp)
  have hr := hg.2 r (by simp)
  have ht := fun b hb => hg.2 b (List.mem_cons_of_mem r hb)
  have hk : isUpperU (r.toNat : Int) = k := by rw [up_cap2 (ltr_lt hr.1), hr.2]
  obtain ⟨c, hc, hcl, hx⟩ : ∃ c : UInt8, cvt big (r.toNat : Int) = (c.toNat : Int) ∧ ltr c = true ∧ c :: t.map toLo = xw big (r :: t) := by
    cases big with
    | true => exact ⟨toUp r, tu_b (ltr_lt hr.1), ltr_up hr.1, by unfold xw; rw [if_pos rfl]; show _ = toUp (toLo r) :: _; rw [up_lo2]⟩
    | false => exact ⟨toLo r, tl_b (ltr_lt hr.1), ltr_lo hr.1, rfl⟩
  match t, hg.1, ht, hx, h2 with
  | r2 :: t, _, ht, hx, h2 =>
  rw [e]
  unfold xcs
  rcases h2 with ⟨rfl, rfl⟩ | ⟨s2, rest', rfl, hs2, h3⟩
  · rw [tn_cons, xA_not (ltr_conn hr.1), hk, hc, tn_cons]
    show xC k (c.toNat : Int) (tn (r2 :: t)) = _
    rw [end_word (r2 :: t) c hcl ht, hx]
    simp
  · have ih := words_run rest'.length rest' ws2 s2 (Nat.le_refl _) hs2 h3 (fun w h => hw w (by rw [e]; simp [h]))
    rw [List.cons_append, tn_cons, xA_not (ltr_conn hr.1), hk, hc, List.cons_append, tn_cons]
    show xC k (c.toNat : Int) (tn ((r2 :: t) ++ s2 :: rest')) = _
    rw [in_word hs2 rest' (r2 :: t) c hcl ht, ih, hx]

/-! ### from the reference's tests to words of one case -/
theorem pt_ltr : ∀ (rest word : List UInt8) (out ws : List (List UInt8)), (∀ w ∈ out, ∀ b ∈ w, ltr b = true) → (∀ b ∈ word, ltr b = true) → pt out word rest = some ws → (∀ w ∈ ws, ∀ b ∈ w, ltr b = true) ∧ ∀ b ∈ rest, b.toNat < 128
  | [], word, out, ws, ho, hw, h => by
    unfold pt at h
    split at h
    · cases h
    · cases h
      refine ⟨fun w hw2 => ?_, by simp⟩
      rcases List.mem_append.1 hw2 with h1 | h1
      · exact ho w h1
      · simp at h1; rw [h1]; exact hw
  | c :: r, word, out, ws, ho, hw, h => by
    unfold pt at h
    split at h
    · rename_i hs
      split at h
      · cases h
      · obtain ⟨h1, h2⟩ := pt_ltr r [] (out ++ [word]) ws (by intro w hw2; rcases List.mem_append.1 hw2 with h1 | h1; exact ho w h1; simp at h1; rw [h1]; exact hw) (by simp) h
        refine ⟨h1, fun b hb => ?_⟩
        rcases List.mem_cons.1 hb with rfl | hb
        · exact sep_lt hs
        · exact h2 b hb
    · split at h
      · rename_i hl
        obtain ⟨h1, h2⟩ := pt_ltr r (word ++ [c]) out ws ho (by intro b hb; rcases List.mem_append.1 hb with hb | hb; exact hw b hb; simp at hb; rw [hb]; exact hl) h
        refine ⟨h1, fun b hb => ?_⟩
        rcases List.mem_cons.1 hb with rfl | hb
        · exact ltr_lt hl
        · exact h2 b hb
      · cases h
theorem cap_97 {b : UInt8} (h : ltr b = true) : isCap b = decide (b.toNat < 97) := by
  have := ltr_nat h
  unfold isCap
  exact decide_eq_decide.2 (by omega)
theorem ok_good {ws : List (List UInt8)} (hl : ∀ w ∈ ws, ∀ b ∈ w, ltr b = true) (h : okW ws = true) : ∃ k, ∀ w ∈ ws, Gd k w := by
  refine ⟨decide (((ws.headD []).headD 0).toNat < 97), fun w hw => ?_⟩
  have h1 := List.all_eq_true.1 h w hw
  rw [Bool.and_eq_true] at h1
  obtain ⟨h1, h2⟩ := h1
  unfold oneB at h1
  rw [Bool.and_eq_true] at h1
  have h3 := of_decide_eq_true h1.1
  refine ⟨h3, fun b hb => ⟨hl w hw b hb, ?_⟩⟩
  have h4 := List.all_eq_true.1 h1.2 b hb
  unfold sameB at h2
  rw [cap_97 (hl w hw b hb), beq_iff_eq.1 h4, beq_iff_eq.1 h2]
theorem says_law (big : Bool) (l : List UInt8) (ws : List (List UInt8)) (h : pt [] [] l = some ws) (hw : okW ws = true) : xA big (rns l) = xcs big ws := by
  obtain ⟨h1, h2⟩ := pt_ltr l [] [] ws (by simp) (by simp) h
  obtain ⟨k, hk⟩ := ok_good h1 hw
  have ha : asc (tn l) := fun r hr => by obtain ⟨b, hb, rfl⟩ := List.mem_map.1 hr; exact h2 b hb
  have e : enc (tn l) = l := by
    rw [enc_asc ha]
    unfold tn
    rw [List.map_map]
    exact (List.map_congr_left (fun b _ => by simp)).trans (List.map_id _)
  have e2 : rns l = tn l := by
    have := rns_enc (tn l) ha.scs
    rwa [e] at this
  rw [e2]
  exact words_law big l ws h hk

end Go.Proofs.YthanbbflemkomaaDoor
