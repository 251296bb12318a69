/- Texts of names with values, without dollar signs, quotes and returns: what they are read as, and that two of them, one behind the other, are read as both. No condition of its own. -/
import Derived.Test.YtdfhidnhkeapbaaDoorEPlain
namespace Go.Proofs.YtdfhidnhkeapbaaDoor.U8
open Go.Lib

def isSpB (c : UInt8) : Bool := c == 9 || c == 11 || c == 12 || c == 13 || c == 32
def isWsB (c : UInt8) : Bool := isSpB c || c == 10
def notNl (c : UInt8) : Bool := c != 10
def nameB (c : UInt8) : Bool := c == 95 || c == 46 || decide ((65 ≤ c.toNat ∧ c.toNat ≤ 90) ∨ (97 ≤ c.toNat ∧ c.toNat ≤ 122) ∨ (48 ≤ c.toNat ∧ c.toNat ≤ 57))
def okC (c : UInt8) : Bool := isSpB c || nameB c
theorem drop_le (p : UInt8 → Bool) (l : List UInt8) : (l.dropWhile p).length ≤ l.length := (List.dropWhile_suffix p).length_le
/-- Where the next statement begins. -/
def startF : Nat → List UInt8 → Option (List UInt8)
  | 0, _ => none
  | n + 1, s => match s.dropWhile isWsB with
    | [] => none
    | c :: t => if c == 35 then startF n (t.dropWhile notNl) else some (c :: t)
theorem startF_fuel : ∀ (n m : Nat) (s : List UInt8), s.length < n → s.length < m → startF n s = startF m s
  | 0, _, _, h, _ => by omega
  | _ + 1, 0, _, _, h => by omega
  | n + 1, m + 1, s, h, h2 => by
    unfold startF
    have hl := drop_le isWsB s
    cases hd : s.dropWhile isWsB with
    | nil => rfl
    | cons c t =>
      rw [hd, List.length_cons] at hl
      have h3 := drop_le notNl t
      simp only
      split
      · exact startF_fuel n m _ (by omega) (by omega)
      · rfl
def startS (s : List UInt8) : Option (List UInt8) := startF (s.length + 1) s
theorem startS_nil {s : List UInt8} (h : s.dropWhile isWsB = []) : startS s = none := by unfold startS startF; rw [h]
theorem startS_note {s t : List UInt8} (h : s.dropWhile isWsB = 35 :: t) : startS s = startS (t.dropWhile notNl) := by
  have hl := drop_le isWsB s
  rw [h, List.length_cons] at hl
  have h3 := drop_le notNl t
  have e : startS s = startF s.length (t.dropWhile notNl) := by unfold startS; rw [startF, h]; rfl
  rw [e]
  exact startF_fuel _ _ _ (by omega) (by omega)
theorem startS_some {s t : List UInt8} {c : UInt8} (h : s.dropWhile isWsB = c :: t) (hc : c ≠ 35) : startS s = some (c :: t) := by
  unfold startS startF; rw [h]
  simp [hc]
theorem startS_congr {s s' : List UInt8} (h : s.dropWhile isWsB = s'.dropWhile isWsB) : startS s = startS s' := by
  cases hd : s.dropWhile isWsB with
  | nil => exact (startS_nil hd).trans (startS_nil (h.symm.trans hd)).symm
  | cons c t =>
    by_cases hc : c = 35
    · subst hc; exact (startS_note hd).trans (startS_note (h.symm.trans hd)).symm
    · exact (startS_some hd hc).trans (startS_some (h.symm.trans hd) hc).symm
theorem dw_nl {p : UInt8 → Bool} (hp : p 10 = false) (l b : List UInt8) : (l ++ 10 :: b).dropWhile p = l.dropWhile p ++ 10 :: b := by
  rw [List.dropWhile_append]
  cases h : l.dropWhile p with
  | nil => simp [hp]
  | cons c t => rfl
theorem tw_nl {p : UInt8 → Bool} (hp : p 10 = false) : ∀ l b : List UInt8, (l ++ 10 :: b).takeWhile p = l.takeWhile p
  | [], b => by simp [hp]
  | c :: l, b => by
    simp only [List.cons_append, List.takeWhile_cons]
    rw [tw_nl hp l b]
theorem start_nl (b : List UInt8) : startS (10 :: b) = startS b := startS_congr rfl
theorem start_append (b : List UInt8) : ∀ (n : Nat) (s : List UInt8), s.length < n → (startS s = none → startS (s ++ 10 :: b) = startS b) ∧ (∀ r, startS s = some r → startS (s ++ 10 :: b) = some (r ++ 10 :: b))
  | 0, s, h => by omega
  | n + 1, s, h => by
    have hl := drop_le isWsB s
    cases hd : s.dropWhile isWsB with
    | nil =>
      have e : (s ++ 10 :: b).dropWhile isWsB = (10 :: b).dropWhile isWsB := by rw [List.dropWhile_append, hd]; rfl
      refine ⟨fun _ => (startS_congr e).trans (start_nl b), fun r hr => ?_⟩
      rw [startS_nil hd] at hr
      cases hr
    | cons c t =>
      have e : (s ++ 10 :: b).dropWhile isWsB = c :: (t ++ 10 :: b) := by rw [List.dropWhile_append, hd]; rfl
      rw [hd, List.length_cons] at hl
      by_cases hc : c = 35
      · subst hc
        rw [startS_note hd, startS_note e, dw_nl rfl]
        have h3 := drop_le notNl t
        exact start_append b n _ (by omega)
      · rw [startS_some hd hc, startS_some e hc]
        refine ⟨fun h => ?_, fun r hr => ?_⟩
        · cases h
        · cases hr; rfl
/-- What a statement begins with. -/
theorem start_is : ∀ (n : Nat) (s : List UInt8), s.length < n → ∀ r, startS s = some r → (∃ c t, r = c :: t ∧ isWsB c = false ∧ c ≠ 35) ∧ r <:+ s
  | 0, s, h => by omega
  | n + 1, s, h => by
    intro r hr
    have hl := drop_le isWsB s
    have hsf := List.dropWhile_suffix isWsB (l := s)
    cases hd : s.dropWhile isWsB with
    | nil => rw [startS_nil hd] at hr; cases hr
    | cons c t =>
      have hh : isWsB c = false := by
        have := List.head?_dropWhile_not isWsB s
        rw [hd] at this
        simpa using this
      rw [hd] at hl hsf
      rw [List.length_cons] at hl
      by_cases hc : c = 35
      · subst hc
        rw [startS_note hd] at hr
        have h3 := drop_le notNl t
        obtain ⟨h1, h2⟩ := start_is n _ (by omega) r hr
        exact ⟨h1, h2.trans ((List.dropWhile_suffix notNl).trans ((List.suffix_cons _ _).trans hsf))⟩
      · rw [startS_some hd hc] at hr
        cases hr
        exact ⟨⟨c, t, rfl, hh, hc⟩, hsf⟩
/-- The last line, turned round. -/
def lastB (s : List UInt8) : List UInt8 := s.reverse.takeWhile notNl
def sepB (l : List UInt8) : Bool := l.any fun c => c == 61 || c == 58
def partedB (s : List UInt8) : Bool := sepB (lastB s) || (lastB s).all fun c => c == 32 || c == 9
theorem tw_all {p : UInt8 → Bool} : ∀ (l r : List UInt8), (∀ c ∈ l, p c = true) → (l ++ r).takeWhile p = l ++ r.takeWhile p
  | [], r, _ => rfl
  | c :: l, r, h => by
    rw [List.cons_append, List.takeWhile_cons, h c (List.mem_cons_self ..), if_pos rfl, tw_all l r fun x hx => h x (List.mem_cons_of_mem _ hx)]
    rfl
theorem lastB_nl (p u : List UInt8) : lastB (p ++ 10 :: u) = lastB (10 :: u) := by
  unfold lastB
  rw [List.reverse_append, List.reverse_cons, List.append_assoc, tw_nl rfl u.reverse ([] : List UInt8), List.singleton_append, tw_nl rfl]
theorem partedB_nl (p u : List UInt8) : partedB (p ++ 10 :: u) = partedB (10 :: u) := by unfold partedB; rw [lastB_nl]
theorem dw_notNl (t : List UInt8) : t.dropWhile notNl = [] ∨ ∃ u, t.dropWhile notNl = 10 :: u := by
  cases hd : t.dropWhile notNl with
  | nil => exact .inl rfl
  | cons c u =>
    have := List.head?_dropWhile_not notNl t
    rw [hd] at this
    have : c = 10 := by simpa [notNl] using this
    subst this
    exact .inr ⟨u, rfl⟩
theorem suffix_parted {s l : List UInt8} (h : l.dropWhile notNl <:+ s) (hp : partedB s = true) : partedB (l.dropWhile notNl) = true := by
  rcases dw_notNl l with e | ⟨u, e⟩
  · rw [e]; rfl
  · rw [e] at h ⊢
    obtain ⟨p, rfl⟩ := h
    rw [partedB_nl] at hp
    exact hp
theorem start_sep : ∀ (n : Nat) (s : List UInt8), s.length < n → partedB s = true → ∀ r, startS s = some r → 10 ∉ r → sepB r = true
  | 0, s, h => by omega
  | n + 1, s, h => by
    intro hp r hr hn
    have hl := drop_le isWsB s
    have hta := List.takeWhile_append_dropWhile (p := isWsB) (l := s)
    cases hd : s.dropWhile isWsB with
    | nil => rw [startS_nil hd] at hr; cases hr
    | cons c t =>
      have hh : isWsB c = false := by
        have := List.head?_dropWhile_not isWsB s
        rw [hd] at this
        simpa using this
      rw [hd] at hta hl
      rw [List.length_cons] at hl
      by_cases hc : c = 35
      · subst hc
        rw [startS_note hd] at hr
        have h3 := drop_le notNl t
        refine start_sep n _ (by omega) (suffix_parted (s := s) ?_ hp) r hr hn
        exact (List.dropWhile_suffix notNl).trans ((List.suffix_cons _ _).trans ⟨_, hta⟩)
      · rw [startS_some hd hc] at hr
        cases hr
        have hlb : lastB s = (c :: t).reverse ++ (s.takeWhile isWsB).reverse.takeWhile notNl := by
          conv => lhs; rw [← hta]
          unfold lastB
          rw [List.reverse_append]
          exact tw_all _ _ fun x hx => by
            have : x ≠ 10 := fun e => hn (e ▸ List.mem_reverse.1 hx)
            simpa [notNl] using this
        unfold partedB at hp
        rw [hlb, Bool.or_eq_true] at hp
        rcases hp with hp | hp
        · unfold sepB at hp ⊢
          rw [List.any_append, Bool.or_eq_true] at hp
          rcases hp with hp | hp
          · rw [List.any_reverse] at hp
            exact hp
          · obtain ⟨x, hx, hxe⟩ := List.any_eq_true.1 hp
            have hx2 := List.mem_reverse.1 ((List.takeWhile_sublist notNl).subset hx)
            have hx3 : isWsB x = true := by
              have := List.all_takeWhile (p := isWsB) (l := s)
              exact List.all_eq_true.1 this x hx2
            exfalso
            simp only [Bool.or_eq_true, beq_iff_eq] at hxe
            rcases hxe with rfl | rfl <;> exact absurd hx3 (by decide)
        · rw [List.all_append, Bool.and_eq_true, List.all_reverse] at hp
          have := List.all_eq_true.1 hp.1 c (List.mem_cons_self ..)
          exfalso
          simp only [Bool.or_eq_true, beq_iff_eq] at this
          rcases this with rfl | rfl <;> exact absurd hh (by decide)
/-- The name, and what stands behind its separator. -/
def expT : List UInt8 := [101, 120, 112, 111, 114, 116]
def expS (s : List UInt8) : List UInt8 := if expT.isPrefixOf s && ((s.drop 6).head?.map isSpB).getD false then (s.drop 6).dropWhile isSpB else s
def trimR (p : UInt8 → Bool) (l : List UInt8) : List UInt8 := (l.reverse.dropWhile p).reverse
def locT (s : List UInt8) : Option (List UInt8 × List UInt8) := match s.dropWhile okC with
  | [] => if s = [] then none else some ([], s.dropWhile isSpB)
  | c :: t => if c == 61 || c == 58 then some (trimR isWsB (s.takeWhile okC), t.dropWhile isSpB) else none
def locS (s : List UInt8) : Option (List UInt8 × List UInt8) := locT (expS (s.dropWhile isSpB))
theorem prefix_nl (b : List UInt8) : ∀ (P s : List UInt8), 10 ∉ P → P.isPrefixOf (s ++ 10 :: b) = P.isPrefixOf s
  | [], _, _ => rfl
  | c :: P, [], h => by
    have : c ≠ 10 := fun e => h (e ▸ List.mem_cons_self ..)
    show (c == 10 && _) = false
    rw [beq_eq_false_iff_ne.2 this]; rfl
  | c :: P, d :: s, h => by
    show (c == d && P.isPrefixOf (s ++ 10 :: b)) = (c == d && P.isPrefixOf s)
    rw [prefix_nl b P s fun e => h (List.mem_cons_of_mem _ e)]
theorem exp_append (s b : List UInt8) : expS (s ++ 10 :: b) = expS s ++ 10 :: b := by
  unfold expS
  rw [prefix_nl b expT s (by decide)]
  cases hp : expT.isPrefixOf s with
  | false => rfl
  | true =>
    have h6 : 6 ≤ s.length := prefix_len hp
    rw [List.drop_append_of_le_length h6]
    have hh : ((s.drop 6 ++ 10 :: b).head?.map isSpB).getD false = ((s.drop 6).head?.map isSpB).getD false := by
      cases s.drop 6 with
      | nil => rfl
      | cons c t => rfl
    rw [hh]
    split
    · exact dw_nl rfl _ _
    · rfl
/-- What is left out ahead of a name has neither a line's end nor a separator. -/
def calmB (c : UInt8) : Bool := c != 10 && c != 61 && c != 58
theorem sp_calm {c : UInt8} (h : isSpB c = true) : calmB c = true := by
  unfold isSpB at h
  simp only [Bool.or_eq_true, beq_iff_eq] at h
  rcases h with (((h | h) | h) | h) | h <;> subst h <;> rfl
theorem dw_split {p : UInt8 → Bool} (hp : ∀ c, p c = true → calmB c = true) (s : List UInt8) : ∃ q, s = q ++ s.dropWhile p ∧ q.all calmB = true :=
  ⟨s.takeWhile p, List.takeWhile_append_dropWhile.symm, List.all_eq_true.2 fun x hx => hp x (List.all_eq_true.1 List.all_takeWhile x hx)⟩
theorem exp_split (s : List UInt8) : ∃ q, s = q ++ expS s ∧ q.all calmB = true := by
  unfold expS
  split
  · rename_i h
    rw [Bool.and_eq_true] at h
    obtain ⟨q, hq, hc⟩ := dw_split (p := isSpB) (fun _ h => sp_calm h) (s.drop 6)
    obtain ⟨t, ht⟩ := List.isPrefixOf_iff_prefix.1 h.1
    refine ⟨expT ++ q, ?_, by rw [List.all_append, hc]; rfl⟩
    have h6 : s.drop 6 = t := by rw [← ht]; rfl
    rw [List.append_assoc, ← hq, h6]
    exact ht.symm
  · exact ⟨[], rfl, rfl⟩
theorem loc_split (s : List UInt8) : ∃ q, s = q ++ expS (s.dropWhile isSpB) ∧ q.all calmB = true := by
  obtain ⟨q, hq, hc⟩ := dw_split (p := isSpB) (fun _ h => sp_calm h) s
  obtain ⟨r, hr, hd⟩ := exp_split (s.dropWhile isSpB)
  refine ⟨q ++ r, ?_, by rw [List.all_append, hc, hd]; rfl⟩
  rw [List.append_assoc, ← hr]
  exact hq
theorem ok_nosep {c : UInt8} (h : okC c = true) : (c == 61 || c == 58) = false := by
  cases h2 : (c == 61 || c == 58) with
  | false => rfl
  | true =>
    simp only [Bool.or_eq_true, beq_iff_eq] at h2
    rcases h2 with rfl | rfl <;> exact absurd h (by decide)
theorem all_of_dw {p : UInt8 → Bool} {s : List UInt8} (h : s.dropWhile p = []) : ∀ c ∈ s, p c = true := by
  have := List.takeWhile_append_dropWhile (p := p) (l := s)
  rw [h, List.append_nil] at this
  intro c hc
  rw [← this] at hc
  exact List.all_eq_true.1 List.all_takeWhile c hc
theorem loc_append (s b : List UInt8) (hsep : 10 ∉ s → sepB s = true) (k l : List UInt8) (h : locS s = some (k, l)) : locS (s ++ 10 :: b) = some (k, l ++ 10 :: b) := by
  unfold locS at h ⊢
  rw [dw_nl rfl, exp_append]
  obtain ⟨q, hq, hc⟩ := loc_split s
  obtain ⟨S, hS⟩ : ∃ S, expS (s.dropWhile isSpB) = S := ⟨_, rfl⟩
  rw [hS] at h hq ⊢
  unfold locT at h ⊢
  rw [dw_nl rfl]
  cases hd : S.dropWhile okC with
  | nil =>
    exfalso
    have hall := all_of_dw hd
    have hn : 10 ∉ s := by
      rw [hq]
      intro hm
      rcases List.mem_append.1 hm with hm | hm
      · exact absurd (List.all_eq_true.1 hc _ hm) (by decide)
      · exact absurd (hall _ hm) (by decide)
    have h2 := hsep hn
    obtain ⟨x, hx, hxe⟩ := List.any_eq_true.1 h2
    rw [hq] at hx
    rcases List.mem_append.1 hx with hx | hx
    · have := List.all_eq_true.1 hc _ hx
      simp only [Bool.or_eq_true, beq_iff_eq] at hxe
      rcases hxe with rfl | rfl <;> exact absurd this (by decide)
    · rw [ok_nosep (hall _ hx)] at hxe
      cases hxe
  | cons c t =>
    rw [hd] at h
    simp only [List.cons_append] at h ⊢
    split at h
    · rename_i he
      rw [if_pos he, tw_nl rfl, dw_nl rfl]
      cases h
      rfl
    · cases h
/-- A value without a dollar sign. -/
def cutI (l : List UInt8) : Nat → Nat
  | 0 => l.length
  | i + 1 => if l[i]? == some 35 && decide (0 < i) && ((l[i - 1]?).map isSpB).getD false then i else cutI l i
def cutC (l : List UInt8) : List UInt8 := l.take (cutI l l.length)
def trimB (p : UInt8 → Bool) (l : List UInt8) : List UInt8 := trimR p (l.dropWhile p)
def valT (l : List UInt8) : List UInt8 := trimB isSpB (cutC (l.takeWhile notNl))
def pairsF : Nat → List UInt8 → Option KVs
  | 0, _ => none
  | n + 1, s => match startS s with
    | none => some []
    | some r => match locS r with
      | none => none
      | some (k, l) => (pairsF n (l.dropWhile notNl)).map ((k, valT l) :: ·)
theorem loc_len {r k l : List UInt8} (h : locS r = some (k, l)) : (l.dropWhile notNl).length < r.length ∧ l.dropWhile notNl <:+ r := by
  unfold locS at h
  obtain ⟨q, hq, _⟩ := loc_split r
  obtain ⟨S, hS⟩ : ∃ S, expS (r.dropWhile isSpB) = S := ⟨_, rfl⟩
  rw [hS] at h hq
  have hSr : S <:+ r := ⟨q, hq.symm⟩
  have hSl := hSr.length_le
  unfold locT at h
  have hdl := drop_le okC S
  have hds := List.dropWhile_suffix okC (l := S)
  cases hd : S.dropWhile okC with
  | nil =>
    rw [hd] at h
    simp only at h
    split at h
    · cases h
    · rename_i hne
      cases h
      have hall := all_of_dw hd
      have e : (S.dropWhile isSpB).dropWhile notNl = [] := by
        rcases dw_notNl (S.dropWhile isSpB) with e | ⟨u, e⟩
        · exact e
        · exfalso
          have h1 : (10 : UInt8) ∈ (S.dropWhile isSpB).dropWhile notNl := by rw [e]; exact List.mem_cons_self ..
          have h2 := (List.dropWhile_suffix isSpB).subset ((List.dropWhile_suffix notNl).subset h1)
          exact absurd (hall _ h2) (by decide)
      rw [e]
      refine ⟨?_, List.nil_suffix⟩
      cases S with
      | nil => exact absurd rfl hne
      | cons c t => simp only [List.length_cons, List.length_nil] at hSl ⊢; omega
  | cons c t =>
    rw [hd] at h hdl hds
    simp only at h
    split at h
    · cases h
      have h1 := drop_le notNl (t.dropWhile isSpB)
      have h2 := drop_le isSpB t
      rw [List.length_cons] at hdl
      exact ⟨by omega, (List.dropWhile_suffix notNl).trans ((List.dropWhile_suffix isSpB).trans ((List.suffix_cons _ _).trans (hds.trans hSr)))⟩
    · cases h
theorem pairsF_fuel : ∀ (n m : Nat) (s : List UInt8), s.length < n → s.length < m → pairsF n s = pairsF m s
  | 0, _, _, h, _ => by omega
  | _ + 1, 0, _, _, h => by omega
  | n + 1, m + 1, s, h, h2 => by
    unfold pairsF
    cases hs : startS s with
    | none => rfl
    | some r =>
      have hr := (start_is _ s (Nat.lt_succ_self _) r hs).2.length_le
      simp only
      cases hl : locS r with
      | none => rfl
      | some p =>
        obtain ⟨k, l⟩ := p
        have := (loc_len hl).1
        simp only
        rw [pairsF_fuel n m _ (by omega) (by omega)]
def pairsS (s : List UInt8) : Option KVs := pairsF (s.length + 1) s
theorem pairsS_none {s : List UInt8} (h : startS s = none) : pairsS s = some [] := by unfold pairsS pairsF; rw [h]
theorem pairsS_err {s r : List UInt8} (h : startS s = some r) (h2 : locS r = none) : pairsS s = none := by unfold pairsS pairsF; rw [h]; simp only; rw [h2]
theorem pairsS_some {s r k l : List UInt8} (h : startS s = some r) (h2 : locS r = some (k, l)) : pairsS s = (pairsS (l.dropWhile notNl)).map ((k, valT l) :: ·) := by
  have hr := (start_is _ s (Nat.lt_succ_self _) r h).2.length_le
  have := (loc_len h2).1
  have e : pairsS s = (pairsF s.length (l.dropWhile notNl)).map ((k, valT l) :: ·) := by unfold pairsS; rw [pairsF, h]; simp only; rw [h2]
  rw [e, pairsF_fuel _ ((l.dropWhile notNl).length + 1) _ (by omega) (by omega)]
  rfl
theorem pairsS_congr {s s' : List UInt8} (h : startS s = startS s') : pairsS s = pairsS s' := by
  cases hs : startS s with
  | none => exact (pairsS_none hs).trans (pairsS_none (h.symm.trans hs)).symm
  | some r =>
    cases hl : locS r with
    | none => exact (pairsS_err hs hl).trans (pairsS_err (h.symm.trans hs) hl).symm
    | some p =>
      obtain ⟨k, l⟩ := p
      exact (pairsS_some hs hl).trans (pairsS_some (h.symm.trans hs) hl).symm
theorem pairs_append (b : List UInt8) : ∀ (n : Nat) (s : List UInt8), s.length < n → partedB s = true → ∀ x, pairsS s = some x → pairsS (s ++ 10 :: b) = (pairsS b).map (x ++ ·)
  | 0, s, h => by omega
  | n + 1, s, h => by
    intro hp x hx
    obtain ⟨h1, h2⟩ := start_append b _ s (Nat.lt_succ_self _)
    cases hs : startS s with
    | none =>
      rw [pairsS_none hs] at hx
      cases hx
      rw [pairsS_congr (h1 hs)]
      cases pairsS b <;> rfl
    | some r =>
      obtain ⟨_, hsf⟩ := start_is _ s (Nat.lt_succ_self _) r hs
      have hr := hsf.length_le
      have hsep := start_sep _ s (Nat.lt_succ_self _) hp r hs
      cases hl : locS r with
      | none => rw [pairsS_err hs hl] at hx; cases hx
      | some p =>
        obtain ⟨k, l⟩ := p
        obtain ⟨hlen, hsuf⟩ := loc_len hl
        rw [pairsS_some hs hl] at hx
        have hl2 := loc_append r b hsep k l hl
        rw [pairsS_some (h2 r hs) hl2, dw_nl rfl]
        obtain ⟨y, hy⟩ : ∃ y, pairsS (l.dropWhile notNl) = some y := by
          cases hq : pairsS (l.dropWhile notNl) with
          | none => rw [hq] at hx; cases hx
          | some y => exact ⟨y, rfl⟩
        rw [hy] at hx
        cases hx
        rw [pairs_append b n _ (by omega) (suffix_parted (hsuf.trans hsf) hp) y hy]
        have hv : valT (l ++ 10 :: b) = valT l := by unfold valT; rw [tw_nl rfl]
        rw [hv, Option.map_map]
        rfl
end Go.Proofs.YtdfhidnhkeapbaaDoor.U8
