/- The plain machine over lines that are read to their end: behind one another, and with a comment. No program is in sight. -/
import Derived.Test.YthekblmkcfkboaaDoorWPlain
import Derived.Test.YthekblmkcfkboaaDoorPcs
namespace Go.Proofs.YthekblmkcfkboaaDoor
open Go.Lib U8

theorem decode_asc (s t : List UInt8) (c : UInt8) (hs : s ≠ []) (hc : c.toNat < 128) : decodeL (s ++ c :: t) = decodeL s := by
  have h64 : ¬ c.toNat / 64 = 2 := by omega
  rw [decodeL_N, decodeL_N]
  match s, hs with
  | [a], _ => simp [decodeN, h64]
  | [a, b], _ => simp [decodeN, h64]
  | [a, b, d], _ => simp [decodeN, h64]
  | a :: b :: d :: e :: q, _ => simp [decodeN]
theorem rns_one (c : UInt8) (t : List UInt8) (hc : c.toNat < 128) : rns (c :: t) = c.toNat :: rns t := by
  have h : decodeL ([c] ++ t) = (c.toNat, [c].length) := by
    rw [decodeL_N]
    simp [decodeN, hc]
  exact rns_cons [c] t c.toNat (by simp) h
theorem rns_app (t : List UInt8) (c : UInt8) (hc : c.toNat < 128) : ∀ (n : Nat) (s : List UInt8), s.length ≤ n → rns (s ++ c :: t) = rns s ++ c.toNat :: rns t
  | n, [], _ => by rw [List.nil_append, rns_one c t hc]; rfl
  | 0, b :: s, h => by simp at h
  | n + 1, b :: s, h => by
    obtain ⟨a, rest, r, e, ha, hd, _, _⟩ := first_part (b :: s) (by simp)
    have hl : 0 < a.length := List.length_pos_iff.2 ha
    have hlen := congrArg List.length e
    rw [List.length_append] at hlen
    rw [e, List.append_assoc, rns_cons a rest r ha hd, rns_cons a (rest ++ c :: t) r ha (by rw [← List.append_assoc, decode_asc _ _ _ (by simp [ha]) hc]; exact hd), rns_app t c hc n rest (by omega)]
    rfl
theorem rns_sc : ∀ (n : Nat) (s : List UInt8), s.length ≤ n → ∀ r ∈ rns s, Sc r
  | n, [], _ => by intro r hr; rw [rns_nil] at hr; cases hr
  | 0, b :: s, h => by simp at h
  | n + 1, b :: s, h => by
    obtain ⟨a, rest, x, e, ha, hd, hx, _⟩ := first_part (b :: s) (by simp)
    have hl : 0 < a.length := List.length_pos_iff.2 ha
    have hlen := congrArg List.length e
    rw [List.length_append] at hlen
    rw [e, rns_cons a rest x ha hd]
    intro r hr
    rcases List.mem_cons.1 hr with rfl | hr
    · exact hx
    · exact rns_sc n rest (by omega) r hr
theorem rns_asc : ∀ s : List UInt8, (∀ b ∈ s, b.toNat < 128) → rns s = s.map UInt8.toNat
  | [], _ => rfl
  | b :: s, h => by rw [rns_one b s (h b (by simp)), rns_asc s (fun x hx => h x (by simp [hx]))]; rfl

/-- To the end, without a stop. -/
def goes (cmt : Bool) (ex : List Nat) : Sx → List Nat → Option Sx
  | s, [] => some s
  | s, r :: l => match stepS cmt ex s r with
    | .go s' => goes cmt ex s' l
    | _ => none
theorem goes_run {cmt : Bool} {ex : List Nat} : ∀ {l : List Nat} {s s1 : Sx} (m : List Nat), goes cmt ex s l = some s1 → runS cmt ex s (l ++ m) = runS cmt ex s1 m
  | [], s, s1, m, h => by cases h; rfl
  | r :: l, s, s1, m, h => by
    rw [List.cons_append]
    unfold goes at h
    unfold runS
    cases hx : stepS cmt ex s r with
    | go s' => rw [hx] at h; exact (goes_run (s := s') m h).trans (by cases s1; cases m <;> rfl)
    | stop s' => rw [hx] at h; cases h
    | err => rw [hx] at h; cases h
/-- A buffer of digits is not longer than the line so far. -/
def Kb (b : List UInt8) (i : Int) : Prop := digs b = true → (b.length : Int) ≤ i + 1
theorem digs_app (a b : List UInt8) : digs (a ++ b) = (digs a && digs b) := List.all_append
theorem digs_enc {r : Nat} (h : Sc r) (hd : digs (enc1 r) = true) : (enc1 r).length = 1 := by
  by_cases a : r < 128
  · rw [enc1_a a]; rfl
  exfalso
  unfold Sc at h
  by_cases b : r < 2048
  · have e0 : (192 + (r : Int) / 64).toNat.toUInt8.toNat = 192 + r / 64 := byte_of (by omega) (by omega)
    rw [enc1_b (by omega) b] at hd
    simp only [digs, List.all_cons, Bool.and_eq_true, decide_eq_true_eq, e0] at hd
    omega
  by_cases c : r < 65536
  · have e0 : (224 + (r : Int) / 4096).toNat.toUInt8.toNat = 224 + r / 4096 := byte_of (by omega) (by omega)
    rw [enc1_c (by omega)] at hd
    simp only [digs, List.all_cons, Bool.and_eq_true, decide_eq_true_eq, e0] at hd
    omega
  · have e0 : (240 + (r : Int) / 262144).toNat.toUInt8.toNat = 240 + r / 262144 := byte_of (by omega) (by omega)
    rw [enc1_d (by omega) (by omega)] at hd
    simp only [digs, List.all_cons, Bool.and_eq_true, decide_eq_true_eq, e0] at hd
    omega
theorem Kb.put {b : List UInt8} {i : Int} {r : Nat} (h : Kb b i) (hr : Sc r) : Kb (b ++ enc1 r) (i + 1) := by
  intro hd
  rw [digs_app, Bool.and_eq_true] at hd
  have h1 := h hd.1
  have h2 := digs_enc hr hd.2
  rw [List.length_append]; omega
theorem Kb.one {b : List UInt8} {i : Int} (h : Kb b i) (x : UInt8) : Kb (b ++ [x]) (i + 1) := by
  intro hd
  rw [digs_app, Bool.and_eq_true] at hd
  have h1 := h hd.1
  rw [List.length_append, List.length_singleton]; omega
theorem Kb.on {b : List UInt8} {i : Int} (h : Kb b i) : Kb b (i + 1) := by
  intro hd
  have h1 := h hd
  omega
theorem Kb.esc {b : List UInt8} {i : Int} {r : Nat} : Kb (b ++ [92] ++ enc1 r) (i + 1) := by
  intro hd
  rw [digs_app, digs_app, Bool.and_eq_true, Bool.and_eq_true] at hd
  exact absurd hd.1.2 (by decide)
theorem Kb.nil {i : Int} (h : -1 ≤ i) : Kb [] (i + 1) := by
  intro _
  simp; omega
structure Inv (s : Sx) : Prop where
  i : -1 ≤ s.i
  k : Kb s.buf s.i
  c : s.cm = false
theorem inv_start : Inv Sx.start := ⟨by decide, fun _ => by simp [Sx.start], rfl⟩
theorem sc_small {r : Nat} (h : r < 128) : Sc r := by unfold Sc; omega
def GoodO (o : Out) : Prop := match o with
  | .go s' => Inv s'
  | .stop s' => 0 ≤ s'.i
  | .err => True
theorem switch_inv {cmt pd : Bool} {s : Sx} {r : Nat} (hi : -1 ≤ s.i) (hk : Kb s.buf s.i) (hc0 : s.cm = false) (hr : Sc r) (hc : cmt = false ∨ r ≠ 35) : GoodO (switchS cmt pd { s with i := s.i + 1, ad := false } r) := by
  have hput : Kb (s.buf ++ enc1 r) (s.i + 1) := hk.put hr
  have h1 : -1 ≤ s.i + 1 := by omega
  unfold switchS Sx.put
  repeat' split
  all_goals first
    | exact ⟨h1, hput, hc0⟩
    | exact ⟨h1, hk.one _, hc0⟩
    | exact ⟨h1, hk.on, hc0⟩
    | exact trivial
    | (show (0 : Int) ≤ s.i + 1; omega)
    | (rename_i hx; have := hk hx.2.2.2; show (0 : Int) ≤ s.i + 1 - s.buf.length; omega)
    | (exfalso; simp_all)
theorem step_inv {cmt : Bool} {ex : List Nat} {s : Sx} {r : Nat} (hs : Inv s) (hr : Sc r) (hc : cmt = false ∨ r ≠ 35) : GoodO (stepS cmt ex s r) := by
  obtain ⟨hi, hk, hc0⟩ := hs
  have h1 : -1 ≤ s.i + 1 := by omega
  unfold stepS
  simp only [hc0, Bool.false_eq_true, if_false]
  split
  · split
    · exact ⟨h1, Kb.esc, rfl⟩
    · refine ⟨h1, hk.put ?_, rfl⟩
      split
      · exact sc_small (by omega)
      split
      · exact sc_small (by omega)
      exact hr
  split
  · split
    · exact ⟨h1, hk.one _, rfl⟩
    · exact ⟨h1, hk.on, rfl⟩
  split
  · exact ⟨h1, hk.put hr, rfl⟩
  split
  · split
    · exact ⟨h1, hk.one _, rfl⟩
    · exact ⟨h1, Kb.nil hi, rfl⟩
  have h := switch_inv (cmt := cmt) (pd := s.ad) hi hk hc0 hr hc
  rw [hc0] at h
  exact h
theorem run_goes {cmt : Bool} {ex : List Nat} {x : List (List UInt8)} : ∀ {l : List Nat} {s : Sx}, Inv s → (∀ r ∈ l, Sc r) → (∀ r ∈ l, cmt = false ∨ r ≠ 35) → runS cmt ex s l = some (x, -1) → ∃ s1, goes cmt ex s l = some s1 ∧ finS s1 (-1) = some (x, -1) ∧ Inv s1
  | [], s, hs, _, _, h => ⟨s, rfl, h, hs⟩
  | r :: l, s, hs, hr, hc, h => by
    have hg := step_inv (ex := ex) hs (hr r (by simp)) (hc r (by simp))
    unfold goes
    unfold runS at h
    cases hx : stepS cmt ex s r with
    | go s' =>
      rw [hx] at h hg
      exact run_goes hg (fun q hq => hr q (by simp [hq])) (fun q hq => hc q (by simp [hq])) h
    | stop s' =>
      rw [hx] at h hg
      have h2 : (0 : Int) ≤ s'.i := hg
      have h3 : finS s' s'.i = some (x, -1) := h
      unfold finS at h3
      split at h3
      · cases h3
      · simp at h3
        omega
    | err => rw [hx] at h; cases h
/-- The same state behind other words. -/
def Sx.shift (x : List (List UInt8)) (k : Int) (s : Sx) : Sx := { s with args := x ++ s.args, i := s.i + k }
def Out.shift (x : List (List UInt8)) (k : Int) : Out → Out
  | .go s => .go (s.shift x k)
  | .stop s => .stop (s.shift x k)
  | .err => .err
theorem flush_shift (x : List (List UInt8)) (k : Int) (s : Sx) : (s.shift x k).flush = s.flush.shift x k := by
  unfold Sx.flush Sx.shift Sx.word
  dsimp only
  split <;> simp
theorem switch_shift (cmt pd : Bool) (x : List (List UInt8)) (k : Int) (s : Sx) (r : Nat) : switchS cmt pd (s.shift x k) r = (switchS cmt pd s r).shift x k := by
  have e : s.i + k - (s.buf.length : Int) = s.i - s.buf.length + k := by omega
  unfold switchS Sx.put Sx.quoted
  simp only [apply_ite (Out.shift x k)]
  dsimp only [Sx.shift, Out.shift]
  rw [e]
  repeat' (first | rfl | refine if_congr Iff.rfl ?_ ?_)
theorem step_shift (cmt : Bool) (ex : List Nat) (x : List (List UInt8)) (k : Int) (s : Sx) (r : Nat) : stepS cmt ex (s.shift x k) r = (stepS cmt ex s r).shift x k := by
  have e : s.i + k + 1 = s.i + 1 + k := by omega
  have h1 := flush_shift x k { s with i := s.i + 1, ad := false }
  have h2 := switch_shift cmt s.ad x k { s with i := s.i + 1, ad := false } r
  unfold stepS
  have e1 : ({ s.shift x k with i := (s.shift x k).i + 1, ad := false } : Sx) = Sx.shift x k { s with i := s.i + 1, ad := false } := by
    unfold Sx.shift
    dsimp only
    rw [e]
  rw [e1]
  dsimp only
  rw [h1]
  have e2 : (s.shift x k).ad = s.ad := rfl
  rw [e2, h2]
  simp only [apply_ite (Out.shift x k)]
  dsimp only [Sx.shift, Sx.quoted, Out.shift]
  repeat' (first | rfl | refine if_congr Iff.rfl ?_ ?_)
theorem goes_shift (cmt : Bool) (ex : List Nat) (x : List (List UInt8)) (k : Int) : ∀ (l : List Nat) (s : Sx), goes cmt ex (s.shift x k) l = (goes cmt ex s l).map (Sx.shift x k)
  | [], s => rfl
  | r :: l, s => by
    unfold goes
    rw [step_shift]
    cases stepS cmt ex s r with
    | go s' => exact goes_shift cmt ex x k l s'
    | stop s' => rfl
    | err => rfl
theorem fin_shift (x : List (List UInt8)) (k : Int) (s : Sx) {y : List (List UInt8)} {p : Int} (h : finS s p = some (y, p)) : finS (s.shift x k) p = some (x ++ y, p) := by
  unfold finS at h ⊢
  rw [flush_shift]
  have e : ((s.shift x k).esc || (s.shift x k).quoted) = (s.esc || s.quoted) := rfl
  rw [e]
  split
  · rename_i hx
    rw [if_pos hx] at h; cases h
  · rename_i hx
    rw [if_neg hx] at h
    simp at h
    rw [← h]; rfl
/-- A blank behind a line that was read to its end. -/
theorem blank_behind {cmt : Bool} {s : Sx} {x : List (List UInt8)} {p : Int} (h : finS s p = some (x, p)) (hc : s.cm = false) (l : List Nat) : ∃ k, runS cmt [] s (32 :: l) = runS cmt [] (Sx.start.shift x k) l := by
  unfold finS at h
  split at h
  · cases h
  rename_i hx
  have hx2 : s.esc = false ∧ s.quoted = false := by
    cases h1 : s.esc <;> cases h2 : s.quoted <;> simp_all
  simp at h
  have hq := hx2.2
  unfold Sx.quoted at hq
  simp only [Bool.or_eq_false_iff] at hq
  obtain ⟨⟨⟨q1, q2⟩, q3⟩, q4⟩ := hq
  refine ⟨s.i + 2, ?_⟩
  have hst : stepS cmt [] s 32 = .go (Sx.start.shift x (s.i + 2)) := by
    unfold stepS
    have e : (-1 : Int) + (s.i + 2) = s.i + 1 := by omega
    simp only [hc, hx2.1, Sx.quoted, q1, q2, q3, q4, isSp, Sx.shift, Sx.start, e, ← h, List.append_nil]
    simp [Sx.flush, Sx.word]
  show (match stepS cmt [] s 32 with | .err => none | .stop s' => finS s' s'.i | .go s' => runS cmt [] s' l) = _
  rw [hst]
/-- TWO LINES, READ TO THEIR END. -/
theorem joined_run (a b : List UInt8) (x y : List (List UInt8)) (ha : runS false [] Sx.start (rns a) = some (x, -1)) (hb : runS false [] Sx.start (rns b) = some (y, -1)) : runS false [] Sx.start (rns (a ++ 32 :: b)) = some (x ++ y, -1) := by
  obtain ⟨s1, g1, f1, i1⟩ := run_goes inv_start (rns_sc _ a (Nat.le_refl _)) (fun _ _ => .inl rfl) ha
  obtain ⟨s2, g2, f2, i2⟩ := run_goes inv_start (rns_sc _ b (Nat.le_refl _)) (fun _ _ => .inl rfl) hb
  rw [rns_app b 32 (by decide) _ a (Nat.le_refl _), goes_run _ g1]
  obtain ⟨k, hk⟩ := blank_behind (cmt := false) f1 i1.c (rns b)
  rw [show (32 : UInt8).toNat = 32 from rfl, hk]
  have h := goes_run (cmt := false) (ex := []) (s := Sx.start.shift x k) (l := rns b) (s1 := s2.shift x k) [] (by rw [goes_shift, g2]; rfl)
  rw [List.append_nil] at h
  rw [h]
  exact fin_shift x k s2 f2
theorem comment_goes (ex : List Nat) : ∀ (l : List Nat) (s : Sx), (∀ r ∈ l, r ≠ 10) → s.cm = true → ∃ k ad, goes true ex s l = some { s with i := s.i + k, ad := ad }
  | [], s, _, _ => ⟨0, s.ad, by rw [Int.add_zero]; rfl⟩
  | r :: l, s, h, hc => by
    have hr := h r (by simp)
    have hst : stepS true ex s r = .go { s with i := s.i + 1, ad := false } := by
      unfold stepS
      simp [hc, hr]
    obtain ⟨k, ad, hk⟩ := comment_goes ex l { s with i := s.i + 1, ad := false } (fun q hq => h q (by simp [hq])) hc
    refine ⟨1 + k, ad, ?_⟩
    unfold goes
    rw [hst]
    dsimp only
    rw [hk]
    dsimp only
    rw [Int.add_assoc]
/-- A LINE, AND A COMMENT BEHIND A BLANK. -/
theorem comment_run (a c : List UInt8) (x : List (List UInt8)) (ha : runS true [] Sx.start (rns a) = some (x, -1)) (h35 : ∀ r ∈ rns a, r ≠ 35) (hc : ∀ b ∈ c, b.toNat ≠ 10 ∧ b.toNat < 128) : runS true [] Sx.start (rns (a ++ 32 :: 35 :: c)) = some (x, -1) := by
  obtain ⟨s1, g1, f1, i1⟩ := run_goes inv_start (rns_sc _ a (Nat.le_refl _)) (fun r hr => .inr (h35 r hr)) ha
  rw [rns_app _ 32 (by decide) _ a (Nat.le_refl _), goes_run _ g1]
  obtain ⟨k, hk⟩ := blank_behind (cmt := true) f1 i1.c (rns (35 :: c))
  rw [show (32 : UInt8).toNat = 32 from rfl, hk, rns_one 35 c (by decide)]
  have h1 : stepS true [] (Sx.start.shift x k) 35 = .go { Sx.start.shift x k with i := (-1 + k) + 1, ad := false, cm := true } := by
    simp [stepS, switchS, Sx.shift, Sx.start, Sx.quoted, isSp]
  show (match stepS true [] (Sx.start.shift x k) 35 with | .err => none | .stop s' => finS s' s'.i | .go s' => runS true [] s' (rns c)) = _
  rw [h1]
  have hcn : ∀ r ∈ rns c, r ≠ 10 := by
    rw [rns_asc c (fun b hb => (hc b hb).2)]
    intro r hr
    obtain ⟨b, hb, rfl⟩ := List.mem_map.1 hr
    exact (hc b hb).1
  obtain ⟨k2, ad, h2⟩ := comment_goes [] (rns c) { Sx.start.shift x k with i := (-1 + k) + 1, ad := false, cm := true } hcn rfl
  have h := goes_run [] h2
  rw [List.append_nil] at h
  dsimp only
  rw [h]
  simp [runS, finS, Sx.shift, Sx.start, Sx.quoted, Sx.flush, Sx.word]

theorem flush_len (s : Sx) : s.flush.args.length ≤ s.args.length + 1 := by
  unfold Sx.flush
  dsimp only
  split <;> simp
def LenO (n : Nat) (o : Out) : Prop := match o with
  | .go s' => s'.args.length ≤ n
  | .stop s' => s'.args.length ≤ n
  | .err => True
theorem switch_len (cmt pd : Bool) (s : Sx) (r : Nat) : LenO s.args.length (switchS cmt pd s r) := by
  unfold switchS Sx.put
  repeat' split
  all_goals first
    | exact Nat.le_refl _
    | exact trivial
theorem step_len (cmt : Bool) (ex : List Nat) (s : Sx) (r : Nat) : LenO (s.args.length + 1) (stepS cmt ex s r) := by
  have h1 := flush_len { s with i := s.i + 1, ad := false }
  have h2 := switch_len cmt s.ad { s with i := s.i + 1, ad := false } r
  unfold stepS
  dsimp only at h1 h2 ⊢
  repeat' split
  all_goals first
    | exact Nat.le_succ _
    | exact h1
    | skip
  revert h2
  generalize switchS cmt s.ad _ r = o
  intro h2
  cases o with
  | go s' => exact Nat.le_succ_of_le h2
  | stop s' => exact Nat.le_succ_of_le h2
  | err => trivial
theorem fin_len {s : Sx} {x : List (List UInt8)} {p q : Int} (h : finS s q = some (x, p)) : x.length ≤ s.args.length + 1 := by
  unfold finS at h
  split at h
  · cases h
  · simp at h
    rw [← h.1]
    exact flush_len s
theorem run_len {cmt : Bool} {ex : List Nat} {x : List (List UInt8)} {p : Int} : ∀ {l : List Nat} {s : Sx}, runS cmt ex s l = some (x, p) → x.length ≤ s.args.length + l.length + 1
  | [], s, h => fin_len h
  | r :: l, s, h => by
    have hs := step_len cmt ex s r
    unfold runS at h
    rw [List.length_cons]
    cases hx : stepS cmt ex s r with
    | go s' =>
      rw [hx] at h hs
      have h2 : s'.args.length ≤ s.args.length + 1 := hs
      have := run_len h
      omega
    | stop s' =>
      rw [hx] at h hs
      have h2 : s'.args.length ≤ s.args.length + 1 := hs
      have := fin_len h
      omega
    | err => rw [hx] at h; cases h
theorem rns_len' : ∀ (n : Nat) (s : List UInt8), s.length ≤ n → (rns s).length ≤ s.length
  | n, [], _ => by rw [rns_nil]; simp
  | 0, b :: s, h => by simp at h
  | n + 1, b :: s, h => by
    obtain ⟨a, rest, x, e, ha, hd, _, _⟩ := first_part (b :: s) (by simp)
    have hl : 0 < a.length := List.length_pos_iff.2 ha
    have hlen := congrArg List.length e
    rw [List.length_append] at hlen
    rw [e, rns_cons a rest x ha hd, List.length_cons, List.length_append]
    have := rns_len' n rest (by omega)
    omega
theorem rns_len (s : List UInt8) : (rns s).length ≤ s.length := rns_len' _ s (Nat.le_refl _)

end Go.Proofs.YthekblmkcfkboaaDoor
