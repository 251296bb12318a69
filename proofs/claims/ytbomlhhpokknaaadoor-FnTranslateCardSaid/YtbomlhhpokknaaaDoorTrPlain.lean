/- The Translator as plain functions: how a pattern is read, what the translator holds, what it tells of a rune. No program is in sight. -/
import Derived.Test.YtbomlhhpokknaaaDoorPcs
namespace Go.Proofs.YtbomlhhpokknaaaDoor
open Go.Lib U8

/-- What nextRuneRange tells: the rest, the range's start and end, its step (f: fuel, the text's length or more). -/
def nrr : Nat → Int → Bool → Bool → List UInt8 → List UInt8 × Int × Int × Int
  | 0, last, _, _, _ => ([], if last = -1 then 65533 else last, -1, 0)
  | f + 1, last, esc, isR, l =>
    if l = [] then ([], if last = -1 then 65533 else last, -1, 0)
    else
      let r : Int := (decodeL l).1
      let rest := l.drop (decodeL l).2
      if esc = false ∧ r = 92 then nrr f last true isR rest
      else if esc = false ∧ r = 45 then (if last = -1 then nrr f last false isR rest else nrr f last false true rest)
      else if last = -1 then nrr f r false isR rest
      else if isR = true ∧ last = r then nrr f last false false rest
      else (rest, last, r, if isR then (if last < r then 1 else -1) else 0)
theorem nrr_nil (f : Nat) (last : Int) (e i : Bool) : nrr f last e i [] = ([], if last = -1 then 65533 else last, -1, 0) := by
  cases f <;> simp [nrr]
theorem nrr_step (f : Nat) (last : Int) (e i : Bool) (a rest : List UInt8) (r : Nat) (ha : a ≠ []) (hd : decodeL (a ++ rest) = (r, a.length)) :
    nrr (f + 1) last e i (a ++ rest) = (if e = false ∧ (r : Int) = 92 then nrr f last true i rest
      else if e = false ∧ (r : Int) = 45 then (if last = -1 then nrr f last false i rest else nrr f last false true rest)
      else if last = -1 then nrr f r false i rest
      else if i = true ∧ last = (r : Int) then nrr f last false false rest
      else (rest, last, (r : Int), if i then (if last < (r : Int) then 1 else -1) else 0)) := by
  have h : a ++ rest ≠ [] := by simp [ha]
  rw [nrr, if_neg h, hd]
  simp

/-- A code point. -/
def Cp (x : Int) : Prop := 0 ≤ x ∧ x ≤ 1114111
structure NrrOk (l : List UInt8) (R : List UInt8 × Int × Int × Int) : Prop where
  st : Cp R.2.1
  en : R.2.2.1 = -1 ∨ Cp R.2.2.1
  sp : R.2.2.2 = 0 ∨ (R.2.2.2 = 1 ∧ R.2.1 < R.2.2.1) ∨ (R.2.2.2 = -1 ∧ R.2.2.1 < R.2.1)
  len : R.1.length ≤ l.length
  lt : l ≠ [] → R.1.length < l.length
  zero : R.2.2.1 = -1 → R.2.2.2 = 0 ∧ R.1 = []
  nil : l = [] → R.2.2.1 = -1
theorem sc_cp {r : Nat} (h : Sc r) : Cp (r : Int) := by unfold Sc at h; unfold Cp; omega
theorem nrr_ok : ∀ (f : Nat) (last : Int) (e i : Bool) (l : List UInt8), l.length ≤ f → (last = -1 ∨ Cp last) → NrrOk l (nrr f last e i l) := by
  have hnil : ∀ (f : Nat) (last : Int) (e i : Bool), (last = -1 ∨ Cp last) → NrrOk [] (nrr f last e i []) := by
    intro f last e i hl
    rw [nrr_nil]
    refine ⟨?_, .inl rfl, .inl rfl, by simp, by simp, fun _ => ⟨rfl, rfl⟩, fun _ => rfl⟩
    show Cp (if last = -1 then 65533 else last)
    split
    · unfold Cp; omega
    · rcases hl with h | h
      · contradiction
      · exact h
  intro f
  induction f with
  | zero =>
    intro last e i l hl hc
    have : l = [] := List.eq_nil_of_length_eq_zero (by omega)
    subst this
    exact hnil 0 last e i hc
  | succ f ih =>
    intro last e i l hl hc
    by_cases hne : l = []
    · subst hne; exact hnil _ _ _ _ hc
    · obtain ⟨a, rest, r, rfl, ha, hd, hs, _⟩ := first_part l hne
      have hl0 : 0 < a.length := List.length_pos_iff.2 ha
      rw [List.length_append] at hl
      have hcp := sc_cp hs
      have step : ∀ (la : Int) (e i : Bool), (la = -1 ∨ Cp la) → NrrOk (a ++ rest) (nrr f la e i rest) := by
        intro la e i hla
        have h := ih la e i rest (by omega) hla
        refine ⟨h.st, h.en, h.sp, ?_, fun _ => ?_, h.zero, fun h => absurd h hne⟩
        · have := h.len; rw [List.length_append]; omega
        · have := h.len; rw [List.length_append]; omega
      rw [nrr_step f last e i a rest r ha hd]
      split
      · exact step _ _ _ hc
      split
      · split <;> exact step _ _ _ hc
      split
      · exact step _ _ _ (.inr hcp)
      split
      · exact step _ _ _ hc
      · rename_i h1 h2 h3 h4
        have hcl : Cp last := by rcases hc with h | h; · contradiction
                                 · exact h
        refine ⟨hcl, .inr hcp, ?_, ?_, fun _ => ?_, ?_, fun h => absurd h hne⟩
        · cases i with
          | false => exact .inl rfl
          | true =>
            have hne2 : last ≠ (r : Int) := fun h => h4 ⟨rfl, h⟩
            show (if (true : Bool) = true then (if last < (r : Int) then (1 : Int) else -1) else 0) = 0 ∨ _
            by_cases hlt : last < (r : Int)
            · refine .inr (.inl ⟨by simp [hlt], hlt⟩)
            · refine .inr (.inr ⟨by simp [hlt], ?_⟩)
              show (r : Int) < last
              omega
        · show rest.length ≤ _; rw [List.length_append]; omega
        · show rest.length < _; rw [List.length_append]; omega
        · intro h
          have h' : (r : Int) = -1 := h
          unfold Cp at hcp
          omega

/-! ### what the translator holds -/
def lkp : List (Int × Int) → Int → Option Int
  | [], _ => none
  | (k, v) :: l, x => if k = x then some v else lkp l x
def dlt (r : Int) (l : List (Int × Int)) : List (Int × Int) := l.filter fun p => !(p.1 == r)
theorem lkp_cons (k v x : Int) (l : List (Int × Int)) : lkp ((k, v) :: l) x = if k = x then some v else lkp l x := rfl
theorem lkp_dlt_same (r : Int) : ∀ l, lkp (dlt r l) r = none
  | [] => rfl
  | (k, v) :: l => by
    unfold dlt
    by_cases h : k = r
    · rw [List.filter_cons_of_neg (by simp [h])]; exact lkp_dlt_same r l
    · rw [List.filter_cons_of_pos (by simp [h]), lkp_cons, if_neg h]; exact lkp_dlt_same r l
theorem lkp_dlt_other (r x : Int) (hx : x ≠ r) : ∀ l, lkp (dlt r l) x = lkp l x
  | [] => rfl
  | (k, v) :: l => by
    unfold dlt
    by_cases h : k = r
    · rw [List.filter_cons_of_neg (by simp [h]), lkp_cons, if_neg (by rw [h]; exact fun e => hx e.symm)]; exact lkp_dlt_other r x hx l
    · rw [List.filter_cons_of_pos (by simp [h]), lkp_cons, lkp_cons]
      have := lkp_dlt_other r x hx l
      unfold dlt at this
      rw [this]

structure Tr where
  dict : Option (List (Int × Int))
  rmap : Option (List (Int × Int))
  rgs : List (Int × Int × Int × Int)
  sing : List Int
def Tr.nil : Tr := ⟨none, none, [], []⟩
def Tr.addRune (T : Tr) (f t : Int) : Tr :=
  if f ≤ 127 then { T with dict := some ((f, t) :: T.dict.getD []), sing := T.sing ++ [f] }
  else { T with rmap := some ((f, t) :: T.rmap.getD []), sing := T.sing ++ [f] }
def Tr.clear1 (lo hi : Int) (T : Tr) (r : Int) : Tr :=
  if lo ≤ r ∧ r ≤ hi then (if r ≤ 127 then { T with dict := T.dict.map (dlt r) } else { T with rmap := T.rmap.map (dlt r) }) else T
def Tr.clear (T : Tr) (lo hi : Int) (l : List Int) : Tr := l.foldl (Tr.clear1 lo hi) T
def ordR (a b c d : Int) : Int × Int × Int × Int := if a < b then (a, b, c, d) else (b, a, d, c)
def Tr.addR (T : Tr) (R : Int × Int × Int × Int) : Tr := { T.clear R.1 R.2.1 T.sing with rgs := T.rgs ++ [R] }
def Tr.addRange (T : Tr) (a b c d : Int) : Tr := T.addR (ordR a b c d)

/-- What holds of a translator on its way: singles are code points, and where one is, its table is. -/
structure Tr.Ok (T : Tr) : Prop where
  sing : ∀ r ∈ T.sing, Cp r
  dict : ∀ r ∈ T.sing, r ≤ 127 → T.dict.isSome = true
  rmap : ∀ r ∈ T.sing, ¬ r ≤ 127 → T.rmap.isSome = true
  rgs : ∀ R ∈ T.rgs, Cp R.1 ∧ Cp R.2.1 ∧ Cp R.2.2.1 ∧ Cp R.2.2.2
  dv : ∀ x v, T.dict.bind (lkp · x) = some v → Cp v
  mv : ∀ x v, T.rmap.bind (lkp · x) = some v → Cp v
theorem Tr.nil_ok : Tr.nil.Ok := ⟨fun _ h => (by cases h), fun _ h => (by cases h), fun _ h => (by cases h), fun _ h => (by cases h), fun _ _ h => (by cases h), fun _ _ h => (by cases h)⟩
theorem lkp_put {o : Option (List (Int × Int))} (h : ∀ x v, o.bind (lkp · x) = some v → Cp v) {f t : Int} (ht : Cp t) : ∀ x v, (some ((f, t) :: o.getD [])).bind (lkp · x) = some v → Cp v := by
  intro x v hv
  simp only [Option.bind_some] at hv
  rw [lkp_cons] at hv
  by_cases e : f = x
  · rw [if_pos e] at hv; cases hv; exact ht
  · rw [if_neg e] at hv
    cases o with
    | none => simp [lkp] at hv
    | some L => exact h x v (by simpa using hv)
theorem Tr.addRune_ok {T : Tr} (h : T.Ok) {f t : Int} (hf : Cp f) (ht : Cp t) : (T.addRune f t).Ok := by
  unfold Tr.addRune
  split
  · refine ⟨fun r hr => ?_, fun _ _ _ => rfl, fun r hr hn => ?_, h.rgs, lkp_put h.dv ht, h.mv⟩
    · rcases List.mem_append.1 hr with hr | hr
      · exact h.sing r hr
      · simp at hr; subst hr; exact hf
    · rcases List.mem_append.1 hr with hr | hr
      · exact h.rmap r hr hn
      · simp at hr; subst hr; contradiction
  · refine ⟨fun r hr => ?_, fun r hr hn => ?_, fun _ _ _ => rfl, h.rgs, h.dv, lkp_put h.mv ht⟩
    · rcases List.mem_append.1 hr with hr | hr
      · exact h.sing r hr
      · simp at hr; subst hr; exact hf
    · rcases List.mem_append.1 hr with hr | hr
      · exact h.dict r hr hn
      · simp at hr; subst hr; contradiction
theorem clear1_keeps (lo hi r : Int) (T : Tr) : (T.clear1 lo hi r).sing = T.sing ∧ (T.clear1 lo hi r).rgs = T.rgs ∧ (T.clear1 lo hi r).dict.isSome = T.dict.isSome ∧ (T.clear1 lo hi r).rmap.isSome = T.rmap.isSome := by
  unfold Tr.clear1
  split
  · split <;> simp
  · exact ⟨rfl, rfl, rfl, rfl⟩
theorem clear_keeps (lo hi : Int) : ∀ (l : List Int) (T : Tr), (T.clear lo hi l).sing = T.sing ∧ (T.clear lo hi l).rgs = T.rgs ∧ (T.clear lo hi l).dict.isSome = T.dict.isSome ∧ (T.clear lo hi l).rmap.isSome = T.rmap.isSome
  | [], _ => ⟨rfl, rfl, rfl, rfl⟩
  | r :: l, T => by
    have h := clear_keeps lo hi l (T.clear1 lo hi r)
    have k := clear1_keeps lo hi r T
    unfold Tr.clear at h ⊢
    rw [List.foldl_cons]
    exact ⟨h.1.trans k.1, h.2.1.trans k.2.1, h.2.2.1.trans k.2.2.1, h.2.2.2.trans k.2.2.2⟩
theorem lkp_clr {o : Option (List (Int × Int))} (h : ∀ x v, o.bind (lkp · x) = some v → Cp v) (r : Int) : ∀ x v, (o.map (dlt r)).bind (lkp · x) = some v → Cp v := by
  intro x v hv
  cases o with
  | none => simp at hv
  | some L =>
    simp only [Option.map_some, Option.bind_some] at hv
    by_cases e : x = r
    · subst e; rw [lkp_dlt_same] at hv; cases hv
    · rw [lkp_dlt_other r x e] at hv; exact h x v (by simpa using hv)
theorem clear_vals (lo hi : Int) : ∀ (l : List Int) (T : Tr), (∀ x v, T.dict.bind (lkp · x) = some v → Cp v) → (∀ x v, T.rmap.bind (lkp · x) = some v → Cp v) → (∀ x v, (T.clear lo hi l).dict.bind (lkp · x) = some v → Cp v) ∧ (∀ x v, (T.clear lo hi l).rmap.bind (lkp · x) = some v → Cp v)
  | [], _, h, k => ⟨h, k⟩
  | r :: l, T, h, k => by
    have s : (∀ x v, (T.clear1 lo hi r).dict.bind (lkp · x) = some v → Cp v) ∧ (∀ x v, (T.clear1 lo hi r).rmap.bind (lkp · x) = some v → Cp v) := by
      unfold Tr.clear1
      split
      · split
        · exact ⟨lkp_clr h r, k⟩
        · exact ⟨h, lkp_clr k r⟩
      · exact ⟨h, k⟩
    have := clear_vals lo hi l (T.clear1 lo hi r) s.1 s.2
    unfold Tr.clear at this ⊢
    rw [List.foldl_cons]
    exact this
theorem Tr.clear_ok {T : Tr} (h : T.Ok) (lo hi : Int) (l : List Int) : (T.clear lo hi l).Ok := by
  obtain ⟨e1, e2, e3, e4⟩ := clear_keeps lo hi l T
  have hv := clear_vals lo hi l T h.dv h.mv
  refine ⟨?_, ?_, ?_, ?_, hv.1, hv.2⟩
  · rw [e1]; exact h.sing
  · rw [e1, e3]; exact h.dict
  · rw [e1, e4]; exact h.rmap
  · rw [e2]; exact h.rgs
theorem clear_snoc (T : Tr) (lo hi : Int) (l : List Int) (r : Int) : T.clear lo hi (l ++ [r]) = (T.clear lo hi l).clear1 lo hi r := by
  unfold Tr.clear; rw [List.foldl_append]; rfl
theorem ordR_cp {a b c d : Int} (ha : Cp a) (hb : Cp b) (hc : Cp c) (hd : Cp d) : Cp (ordR a b c d).1 ∧ Cp (ordR a b c d).2.1 ∧ Cp (ordR a b c d).2.2.1 ∧ Cp (ordR a b c d).2.2.2 := by
  unfold ordR; split
  · exact ⟨ha, hb, hc, hd⟩
  · exact ⟨hb, ha, hd, hc⟩
theorem Tr.addR_ok {T : Tr} (h : T.Ok) {R : Int × Int × Int × Int} (hR : Cp R.1 ∧ Cp R.2.1 ∧ Cp R.2.2.1 ∧ Cp R.2.2.2) : (T.addR R).Ok := by
  have k := Tr.clear_ok h R.1 R.2.1 T.sing
  refine ⟨k.sing, k.dict, k.rmap, fun X hX => ?_, k.dv, k.mv⟩
  rcases List.mem_append.1 hX with hX | hX
  · exact h.rgs X hX
  · simp at hX; subst hX; exact hR
theorem Tr.addRange_ok {T : Tr} (h : T.Ok) {a b c d : Int} (ha : Cp a) (hb : Cp b) (hc : Cp c) (hd : Cp d) : (T.addRange a b c d).Ok := Tr.addR_ok h (ordR_cp ha hb hc hd)
theorem addRune_sing (T : Tr) (f t : Int) : (T.addRune f t).sing = T.sing ++ [f] := by unfold Tr.addRune; split <;> rfl
theorem addRune_rgs (T : Tr) (f t : Int) : (T.addRune f t).rgs = T.rgs := by unfold Tr.addRune; split <;> rfl
theorem addR_sing (T : Tr) (R : Int × Int × Int × Int) : (T.addR R).sing = T.sing := (clear_keeps R.1 R.2.1 T.sing T).1
theorem addRange_sing (T : Tr) (a b c d : Int) : (T.addRange a b c d).sing = T.sing := addR_sing T _
theorem addR_rgs (T : Tr) (R : Int × Int × Int × Int) : (T.addR R).rgs = T.rgs ++ [R] := rfl

/-! ### where the second pattern is read -/
structure Cu where
  tx : List UInt8
  st : Int
  en : Int
  sp : Int
def Cu.of (R : List UInt8 × Int × Int × Int) : Cu := ⟨R.1, R.2.1, R.2.2.1, R.2.2.2⟩
def Cu.upd (c : Cu) : Cu :=
  if c.en = -1 then c
  else if c.sp = 0 then Cu.of (nrr c.tx.length c.en false false c.tx)
  else if c.st ≠ c.en then { c with st := c.st + c.sp }
  else if c.tx = [] then { c with en := -1 }
  else Cu.of (nrr c.tx.length (-1) false false c.tx)
structure Cu.Ok (c : Cu) (n : Nat) : Prop where
  st : Cp c.st
  en : c.en = -1 ∨ Cp c.en
  sp : c.en = -1 ∨ c.sp = 0 ∨ (c.sp = 1 ∧ c.st ≤ c.en) ∨ (c.sp = -1 ∧ c.en ≤ c.st)
  len : c.tx.length ≤ n
theorem Cu.of_ok {l : List UInt8} {R : List UInt8 × Int × Int × Int} (h : NrrOk l R) : (Cu.of R).Ok l.length :=
  ⟨h.st, h.en, by
    rcases h.sp with k | ⟨k, q⟩ | ⟨k, q⟩
    · exact .inr (.inl k)
    · exact .inr (.inr (.inl ⟨k, by show R.2.1 ≤ R.2.2.1; omega⟩))
    · exact .inr (.inr (.inr ⟨k, by show R.2.2.1 ≤ R.2.1; omega⟩)), h.len⟩
theorem Cu.Ok.mono {c : Cu} {n m : Nat} (h : c.Ok n) (hm : n ≤ m) : c.Ok m := ⟨h.st, h.en, h.sp, Nat.le_trans h.len hm⟩
theorem Cu.upd_ok {c : Cu} {n : Nat} (h : c.Ok n) : c.upd.Ok n := by
  unfold Cu.upd
  split
  · exact h
  split
  · exact (Cu.of_ok (nrr_ok _ _ _ _ _ (Nat.le_refl _) h.en)).mono h.len
  split
  · rename_i h1 h2 h3
    refine ⟨?_, h.en, ?_, h.len⟩
    · have e := h.en; have s := h.st; have p := h.sp
      show Cp (c.st + c.sp)
      unfold Cp at *
      omega
    · have p := h.sp
      show c.en = -1 ∨ c.sp = 0 ∨ (c.sp = 1 ∧ c.st + c.sp ≤ c.en) ∨ (c.sp = -1 ∧ c.en ≤ c.st + c.sp)
      omega
  split
  · exact ⟨h.st, .inl rfl, .inl rfl, h.len⟩
  · exact (Cu.of_ok (nrr_ok _ _ _ _ _ (Nat.le_refl _) (.inl rfl))).mono h.len
/-- How far it still is. -/
def Cu.mu (c : Cu) : Nat := 2 * c.tx.length + if c.en = -1 then 0 else 1
theorem Cu.upd_len (c : Cu) (h : c.en = -1 ∨ Cp c.en) : c.upd.mu ≤ c.mu := by
  unfold Cu.upd
  split
  · exact Nat.le_refl _
  rename_i h1
  have hm : c.mu = 2 * c.tx.length + 1 := by unfold Cu.mu; rw [if_neg h1]
  have hof : ∀ last, (last = -1 ∨ Cp last) → (Cu.of (nrr c.tx.length last false false c.tx)).mu ≤ 2 * c.tx.length + 1 := by
    intro last hl
    have k := nrr_ok c.tx.length last false false c.tx (Nat.le_refl _) hl
    have := k.len
    unfold Cu.mu Cu.of
    dsimp only
    split <;> omega
  split
  · rw [hm]; exact hof _ h
  split
  · unfold Cu.mu; exact Nat.le_refl _
  split
  · rw [hm]; unfold Cu.mu; dsimp only; rw [if_pos rfl]; omega
  · rw [hm]; exact hof _ (.inl rfl)
theorem Cu.of_mu (c : Cu) (last : Int) (hl : last = -1 ∨ Cp last) : (Cu.of (nrr c.tx.length last false false c.tx)).mu < 2 * c.tx.length + 1 := by
  have k := nrr_ok c.tx.length last false false c.tx (Nat.le_refl _) hl
  unfold Cu.mu Cu.of
  dsimp only
  by_cases hn : c.tx = []
  · have h1 := k.nil hn
    rw [if_pos h1, (k.zero h1).2]
    simp
  · have := k.lt hn
    split <;> omega
theorem Cu.upd_lt0 (c : Cu) (h : Cp c.en) (h0 : c.sp = 0) : c.upd.mu < c.mu := by
  have h1 : c.en ≠ -1 := by unfold Cp at h; omega
  have hm : c.mu = 2 * c.tx.length + 1 := by unfold Cu.mu; rw [if_neg h1]
  unfold Cu.upd
  rw [if_neg h1, if_pos h0, hm]
  exact Cu.of_mu c _ (.inr h)
theorem Cu.upd_lt1 (c : Cu) (h : Cp c.en) (h0 : c.sp ≠ 0) : ({ c with st := c.en } : Cu).upd.mu < c.mu := by
  have h1 : c.en ≠ -1 := by unfold Cp at h; omega
  have hm : c.mu = 2 * c.tx.length + 1 := by unfold Cu.mu; rw [if_neg h1]
  unfold Cu.upd
  dsimp only
  rw [if_neg h1, if_neg h0, if_neg (by simp), hm]
  split
  · unfold Cu.mu; dsimp only; rw [if_pos rfl]; omega
  · exact Cu.of_mu c _ (.inl rfl)

/-- The loop over one range of the first pattern, from fs to fe by sp. -/
def inner (fe sp : Int) : Nat → Tr → Cu → Int → Tr × Cu × Int
  | 0, T, c, fs => (T, c, fs)
  | f + 1, T, c, fs =>
    if c.en ≠ -1 ∧ fs ≠ fe then
      if c.sp = 0 then
        if fs + sp = fe then inner fe sp f ((T.addRune fs c.st).addRune (fs + sp) c.upd.st) c.upd.upd (fs + sp)
        else inner fe sp f (T.addRune fs c.st) c.upd (fs + sp)
      else if (c.en - c.st) * c.sp < (fe - fs) * sp then
        if fs + (c.en - c.st) * c.sp * sp + sp = fe then
          inner fe sp f ((T.addRange fs (fs + (c.en - c.st) * c.sp * sp) c.st c.en).addRune (fs + (c.en - c.st) * c.sp * sp + sp) ({ c with st := c.en } : Cu).upd.st) ({ c with st := c.en } : Cu).upd.upd (fs + (c.en - c.st) * c.sp * sp + sp)
        else inner fe sp f (T.addRange fs (fs + (c.en - c.st) * c.sp * sp) c.st c.en) ({ c with st := c.en } : Cu).upd (fs + (c.en - c.st) * c.sp * sp + sp)
      else (T.addRange fs fe c.st (c.st + (fe - fs) * sp * c.sp), ({ c with st := c.st + (fe - fs) * sp * c.sp } : Cu).upd, fe)
    else (T, c, fs)
/-- The loop over the first pattern: the translator, the second pattern's place, the rune that is left. -/
def outer : Nat → Tr → Cu → Int → List UInt8 → Tr × Cu × Int
  | 0, T, c, fe, _ => (T, c, fe)
  | f + 1, T, c, fe, l =>
    if l = [] then (T, c, fe)
    else
      let R := nrr l.length fe false false l
      if R.2.2.2 = 0 then outer f (T.addRune R.2.1 c.st) c.upd R.2.2.1 R.1
      else
        let I := inner R.2.2.1 R.2.2.2 (c.mu + 1) T c R.2.1
        if I.2.2 = R.2.2.1 then outer f I.1 I.2.1 (-1) R.1
        else outer f (I.1.addRange I.2.2 R.2.2.1 I.2.1.st I.2.1.st) I.2.1 (-1) R.1
theorem outer_nil (f : Nat) (T : Tr) (c : Cu) (fe : Int) : outer f T c fe [] = (T, c, fe) := by cases f <;> simp [outer]
def final (X : Tr × Cu × Int) : Tr × Cu := if X.2.2 = -1 then (X.1, X.2.1) else (X.1.addRune X.2.2 X.2.1.st, X.2.1)
/-- The last rune of a text. -/
def lastR : Nat → Int → List UInt8 → Int
  | 0, x, _ => x
  | f + 1, x, l => if l = [] then x else lastR f (decodeL l).1 (l.drop (decodeL l).2)
structure Tx where
  T : Tr
  mapped : Int
  rev : Bool
  del : Bool
  has : Bool
def isRev (l : List UInt8) : Bool := l.head? == some 94
/-- Where the second pattern begins. -/
def cu0 (rev : Bool) (to : List UInt8) : Cu :=
  if to = [] then ⟨[], 65533, -1, 0⟩
  else if rev then ⟨[], lastR to.length 0 to, -1, 0⟩
  else Cu.of (nrr to.length (-1) false false to)
def newTr (l to : List UInt8) : Tx :=
  if l = [] then ⟨Tr.nil, 0, false, false, false⟩
  else
    let rev := isRev l
    let l' := if rev then l.drop 1 else l
    let F := final (outer l'.length Tr.nil (cu0 rev to) (-1) l')
    ⟨F.1, if to = [] ∨ rev = true then F.2.st else -1, rev, decide (to = []), true⟩

/-! ### what it tells of a rune -/
def rngAt (R : Int × Int × Int × Int) (r : Int) : Int := if R.2.2.1 < R.2.2.2 then R.2.2.1 + r - R.1 else if R.2.2.2 < R.2.2.1 then R.2.2.1 - r + R.1 else R.2.2.1
def rlook : List (Int × Int × Int × Int) → Int → Option Int
  | [], _ => none
  | R :: l, r => if R.1 ≤ r ∧ r ≤ R.2.1 then some (rngAt R r) else rlook l r
def Tr.look (T : Tr) (r : Int) : Option Int :=
  match (if r ≤ 127 then T.dict.bind (lkp · r) else none) with
  | some v => some v
  | none => match T.rmap.bind (lkp · r) with
    | some v => some v
    | none => rlook T.rgs.reverse r
def Tx.res (X : Tx) (o : Option Int) (r : Int) : Int :=
  match o with
  | some v => if X.rev then r else if 0 ≤ X.mapped then X.mapped else v
  | none => if X.rev then X.mapped else r
def Tx.hit (X : Tx) (r : Int) : Bool := X.rev != (X.T.look r).isSome
def Tx.trans (X : Tx) (r : Int) : Int × Bool × Bool := (X.res (X.T.look r) r, X.hit r, X.hit r && X.del)

/-- What a text becomes. -/
def Tx.piece (X : Tx) (p : List UInt8 × Nat) : List UInt8 :=
  if X.hit p.2 && X.del then [] else if X.hit p.2 then encodeRune (X.trans p.2).1 else p.1
def Tx.text (X : Tx) (l : List UInt8) : List UInt8 := if X.has then (pcs l).flatMap X.piece else l
def Tx.count (X : Tx) (l : List UInt8) : Nat := (pcs l).countP fun p => X.hit p.2

end Go.Proofs.YtbomlhhpokknaaaDoor
