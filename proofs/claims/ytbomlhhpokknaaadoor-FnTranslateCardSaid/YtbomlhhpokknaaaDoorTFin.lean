/- The translator that two patterns make: whose characters it holds, and their values. No program is in sight. -/
import Derived.Test.YtbomlhhpokknaaaDoorTOut
namespace Go.Proofs.YtbomlhhpokknaaaDoor
open Go.Lib U8

structure Ps (mm : Nat → Int) (T : Tr) (c : Cu) (xs : List Int) : Prop where
  inv : Inv mm T xs
  cur : ∃ Z, Sh c Z ∧ ∀ j, mm (xs.length + j) = nth Z j
theorem nth_one (z : Int) (j : Nat) : nth [z] j = z := by
  unfold nth
  rw [show min j ([z].length - 1) = 0 by simp]; rfl
theorem Ps.one {mm : Nat → Int} {T : Tr} {c : Cu} {xs : List Int} (h : Ps mm T c xs) (f : Int) : Ps mm (T.addRune f c.st) c.upd (xs ++ [f]) := by
  obtain ⟨Z, hZ, hm⟩ := h.cur
  refine ⟨h.inv.addRune f c.st (by have := hm 0; rw [Nat.add_zero] at this; rw [this, hZ.hd]), nxt Z, hZ.upd, fun j => ?_⟩
  rw [List.length_append, List.length_singleton, Nat.add_assoc, Nat.add_comm 1 j, hm, nth_nxt Z hZ.ne]
theorem Ps.const {mm : Nat → Int} {T : Tr} {c : Cu} {xs : List Int} (h : Ps mm T c xs) (hc : c.en = -1) (a s : Int) (n : Nat) (hs : s = 1 ∨ s = -1) : Ps mm (T.addRange a (a + n * s) c.st c.st) c (xs ++ seqI a s (n + 1)) := by
  obtain ⟨Z, hZ, hm⟩ := h.cur
  have hz : Z = [c.st] := by
    rcases hZ with ⟨_, e⟩ | ⟨t, ts, _, e, _⟩ | ⟨D, ts, _, _, e, _⟩
    · exact e
    · omega
    · exact absurd hc e
  have hall : ∀ j, mm (xs.length + j) = c.st := fun j => by rw [hm, hz, nth_one]
  have k := h.inv.addRange a c.st s 0 n hs (.inr (.inr rfl)) (fun i _ => by rw [hall]; simp)
  rw [Int.mul_zero, Int.add_zero] at k
  refine ⟨k, [c.st], .inl ⟨hc, rfl⟩, fun j => ?_⟩
  rw [List.length_append, Nat.add_assoc, hall, nth_one]
theorem Ps.range {mm : Nat → Int} {T : Tr} {c : Cu} {xs : List Int} (h : Ps mm T c xs) {D E : Nat} {ts : List Tok} (hsp : c.sp = 1 ∨ c.sp = -1) (hen : c.en = c.st + D * c.sp) (hen1 : c.en ≠ -1) (ho : Oks ts) (hsc : Scs (raws ts)) (htx : c.tx = enc (raws ts))
    (hm : ∀ j, mm (xs.length + j) = nth (seqI c.st c.sp (D + 1) ++ vals ts) j) (hE : E ≤ D) (a s : Int) (hs : s = 1 ∨ s = -1) :
    Ps mm (T.addRange a (a + E * s) c.st (c.st + E * c.sp)) ({ c with st := c.st + E * c.sp } : Cu).upd (xs ++ seqI a s (E + 1)) := by
  have hsh := Sh.skip hsp hen hen1 ho hsc htx hE
  refine ⟨h.inv.addRange a c.st s c.sp E hs (hsp.elim .inl fun h => .inr (.inl h)) (fun i hi => ?_), _, hsh.upd, fun j => ?_⟩
  · rw [hm]
    have k := nth_left (seqI c.st c.sp (D + 1)) (vals ts) i (by rw [seqI_length]; omega)
    rw [List.getElem?_append_left (by rw [seqI_length]; omega), seqI_get _ _ _ _ (by omega)] at k
    exact (Option.some.inj k).symm
  · rw [List.length_append, seqI_length, show xs.length + (E + 1) + j = xs.length + (E + (j + 1)) by omega, hm, ← nth_nxt _ hsh.ne, show D + 1 = E + (D - E + 1) by omega, seqI_add, List.append_assoc]
    have k := nth_app (seqI c.st c.sp E) (seqI (c.st + E * c.sp) c.sp (D - E + 1) ++ vals ts) hsh.ne (j + 1)
    rw [seqI_length] at k
    exact k
theorem fst_raw (t : Tok) : t.fst ∈ t.raw ∨ ∃ d, t = .es d := by
  cases t with
  | ch c => exact .inl (by simp [Tok.fst, Tok.raw])
  | es d => exact .inr ⟨d, rfl⟩
  | rg a b => exact .inl (by simp [Tok.fst, Tok.raw])
theorem fst_cp {t : Tok} {ts : List Tok} (h : Scs (raws (t :: ts))) : Cp (t.fst : Int) := by
  rw [raws_cons] at h
  have h2 := h.left
  apply sc_cp
  cases t with
  | ch c => exact h2 c (by simp [Tok.raw])
  | es d => exact h2 d (by simp [Tok.raw])
  | rg a b => exact h2 a (by simp [Tok.raw])
theorem upd_lt (c : Cu) (h1 : c.en ≠ -1) (h0 : c.sp ≠ 0) : ({ c with st := c.en } : Cu).upd.mu < c.mu := by
  have hm : c.mu = 2 * c.tx.length + 1 := by unfold Cu.mu; rw [if_neg h1]
  unfold Cu.upd
  dsimp only
  rw [if_neg h1, if_neg h0, if_neg (by simp), hm]
  split
  · unfold Cu.mu; dsimp only; rw [if_pos rfl]; omega
  · exact Cu.of_mu c _ (.inl rfl)
theorem inner_at (fe sp : Int) (f : Nat) (T : Tr) (c : Cu) : inner fe sp f T c fe = (T, c, fe) := by
  cases f with
  | zero => rfl
  | succ f => unfold inner; rw [if_neg (by simp)]
def fill (fe : Int) (I : Tr × Cu × Int) : Tr := if I.2.2 = fe then I.1 else I.1.addRange I.2.2 fe I.2.1.st I.2.1.st
theorem seqI_two (a s : Int) (n : Nat) : seqI a s (n + 2) = [a] ++ seqI (a + s) s (n + 1) := by rw [seqI_succ]; rfl
theorem pm_sq {s : Int} (hs : s = 1 ∨ s = -1) (n : Int) : n * s * s = n := by rcases hs with rfl | rfl <;> omega
theorem pm_ne {s : Int} (hs : s = 1 ∨ s = -1) (a : Int) (n : Nat) (hn : 1 ≤ n) : a ≠ a + n * s := by rcases hs with rfl | rfl <;> omega
/-- A range of the first pattern. -/
theorem inner_ps (mm : Nat → Int) (s : Int) (hs : s = 1 ∨ s = -1) : ∀ (f : Nat) (T : Tr) (c : Cu) (xs : List Int) (fs : Int) (n : Nat), 1 ≤ n → c.mu < f → Ps mm T c xs →
    Ps mm (fill (fs + n * s) (inner (fs + n * s) s f T c fs)) (inner (fs + n * s) s f T c fs).2.1 (xs ++ seqI fs s (n + 1)) := by
  intro f
  induction f with
  | zero => intro T c xs fs n _ h; omega
  | succ f ih =>
    intro T c xs fs n hn hmu h
    have hne := pm_ne hs fs n hn
    by_cases hc : c.en = -1
    · have e : inner (fs + n * s) s (f + 1) T c fs = (T, c, fs) := by unfold inner; rw [if_neg (by simp [hc])]
      rw [e]
      unfold fill
      dsimp only
      rw [if_neg hne]
      exact h.const hc fs s n hs
    · obtain ⟨Z, hZ, hm⟩ := h.cur
      rcases hZ with ⟨e, _⟩ | ⟨t, ts, hsp, hen, ho, hsc, htx, rfl⟩ | ⟨D, ts, hsp, hen, hen1, ho, hsc, htx, rfl⟩
      · exact absurd e hc
      · have hmu2 := Cu.upd_lt0 c (by rw [hen]; exact fst_cp hsc) hsp
        by_cases hn1 : n = 1
        · subst hn1
          have hfe : fs + s = fs + ((1 : Nat) : Int) * s := by omega
          have e : inner (fs + ((1 : Nat) : Int) * s) s (f + 1) T c fs = ((T.addRune fs c.st).addRune (fs + s) c.upd.st, c.upd.upd, fs + s) := by
            rw [inner, if_pos ⟨hc, hne⟩, if_pos hsp, if_pos hfe, ← hfe, inner_at]
          rw [e]
          unfold fill
          dsimp only
          rw [if_pos hfe, seqI_two, seqI_one, ← List.append_assoc]
          exact (h.one fs).one (fs + s)
        · have hfe : ¬ fs + s = fs + n * s := by intro q; rcases hs with rfl | rfl <;> omega
          have hfe2 : fs + n * s = (fs + s) + ((n - 1 : Nat) : Int) * s := by rw [show (n : Int) = ((n - 1 : Nat) : Int) + 1 by omega, Int.add_mul]; omega
          have e : inner (fs + n * s) s (f + 1) T c fs = inner (fs + n * s) s f (T.addRune fs c.st) c.upd (fs + s) := by
            rw [inner, if_pos ⟨hc, hne⟩, if_pos hsp, if_neg hfe]
          rw [e, hfe2, show n + 1 = (n - 1) + 2 by omega, seqI_two, ← List.append_assoc]
          exact ih _ _ _ _ (n - 1) (by omega) (by omega) (h.one fs)
      · have hsp0 : ¬ c.sp = 0 := by omega
        have e1 : (c.en - c.st) * c.sp = D := by rw [hen, show c.st + (D : Int) * c.sp - c.st = D * c.sp by omega, pm_sq hsp]
        have e2 : (fs + n * s - fs) * s = n := by rw [show fs + (n : Int) * s - fs = n * s by omega, pm_sq hs]
        have hmu2 := upd_lt c hen1 hsp0
        by_cases hlt : (D : Int) < n
        · have hst : c.st + (D : Int) * c.sp = c.en := hen.symm
          have k := h.range hsp hen hen1 ho hsc htx hm (Nat.le_refl D) fs s hs
          rw [hst] at k
          by_cases hn1 : n = D + 1
          · subst hn1
            have hfe : fs + (D : Int) * s + s = fs + ((D + 1 : Nat) : Int) * s := by push_cast; rw [Int.add_mul, Int.one_mul]; omega
            have e : inner (fs + ((D + 1 : Nat) : Int) * s) s (f + 1) T c fs = ((T.addRange fs (fs + D * s) c.st c.en).addRune (fs + D * s + s) ({ c with st := c.en } : Cu).upd.st, ({ c with st := c.en } : Cu).upd.upd, fs + D * s + s) := by
              rw [inner, if_pos ⟨hc, hne⟩, if_neg hsp0, e1, e2, if_pos hlt, if_pos hfe, ← hfe, inner_at]
            rw [e]
            unfold fill
            dsimp only
            rw [if_pos hfe]
            have k2 := k.one (fs + D * s + s)
            rw [List.append_assoc] at k2
            rw [seqI_add fs s 1 (D + 1), seqI_one, ← hfe]
            exact k2
          · have hfe : ¬ fs + (D : Int) * s + s = fs + n * s := by intro q; rcases hs with rfl | rfl <;> omega
            have hfe2 : fs + n * s = (fs + D * s + s) + ((n - D - 1 : Nat) : Int) * s := by
              rw [show (n : Int) = (D : Int) + 1 + ((n - D - 1 : Nat) : Int) by omega, Int.add_mul, Int.add_mul]; omega
            have e : inner (fs + n * s) s (f + 1) T c fs = inner (fs + n * s) s f (T.addRange fs (fs + D * s) c.st c.en) ({ c with st := c.en } : Cu).upd (fs + D * s + s) := by
              rw [inner, if_pos ⟨hc, hne⟩, if_neg hsp0, e1, e2, if_pos hlt, if_neg hfe]
            have k2 := ih _ _ _ (fs + D * s + s) (n - D - 1) (by omega) (by omega) k
            rw [← hfe2, List.append_assoc] at k2
            rw [e, show n + 1 = (D + 1) + (n - D - 1 + 1) by omega, seqI_add fs s (n - D - 1 + 1) (D + 1), show fs + ((D + 1 : Nat) : Int) * s = fs + D * s + s by push_cast; rw [Int.add_mul, Int.one_mul]; omega]
            exact k2
        · have e : inner (fs + n * s) s (f + 1) T c fs = (T.addRange fs (fs + n * s) c.st (c.st + n * c.sp), ({ c with st := c.st + n * c.sp } : Cu).upd, fs + n * s) := by
            rw [inner, if_pos ⟨hc, hne⟩, if_neg hsp0, e1, e2, if_neg hlt]
          rw [e]
          unfold fill
          dsimp only
          rw [if_pos rfl]
          exact h.range hsp hen hen1 ho hsc htx hm (by omega) fs s hs

/-- What of the first pattern is still to be read. -/
def Fr (fe : Int) (l : List UInt8) (Y : List Int) : Prop :=
  (fe = -1 ∧ ∃ ts, Oks ts ∧ Scs (raws ts) ∧ l = enc (raws ts) ∧ Y = vals ts) ∨
  (∃ t ts, fe = (t.fst : Int) ∧ Oks (t :: ts) ∧ Scs (raws (t :: ts)) ∧ l = enc (t.rest ++ raws ts) ∧ Y = vals (t :: ts))
theorem outer_inv (mm : Nat → Int) : ∀ (f : Nat) (T : Tr) (c : Cu) (fe : Int) (l : List UInt8) (xs Y : List Int), l.length ≤ f → Fr fe l Y → Ps mm T c xs → Inv mm (final (outer f T c fe l)).1 (xs ++ Y) := by
  intro f
  induction f with
  | zero =>
    intro T c fe l xs Y hl hF h
    have : l = [] := List.eq_nil_of_length_eq_zero (by omega)
    subst this
    rw [outer_nil]
    rcases hF with ⟨rfl, ts, _, _, e, rfl⟩ | ⟨t, ts, rfl, _, _, e, rfl⟩
    · have := raws_nil (enc_ne e.symm)
      subst this
      unfold final
      rw [if_pos rfl]
      simpa [vals] using h.inv
    · obtain ⟨h1, h2⟩ := List.append_eq_nil_iff.1 (enc_ne e.symm)
      have := raws_nil h2
      subst this
      unfold final
      rw [if_neg (by show ¬ ((t.fst : Int) = -1); omega)]
      have hv : vals [t] = [(t.fst : Int)] := by
        cases t with
        | ch c => rfl
        | es c => rfl
        | rg a b => cases h1
      rw [hv]
      exact (h.one _).inv
  | succ f ih =>
    intro T c fe l xs Y hl hF h
    by_cases hl0 : l = []
    · subst hl0
      rw [outer_nil]
      rcases hF with ⟨rfl, ts, _, _, e, rfl⟩ | ⟨t, ts, rfl, _, _, e, rfl⟩
      · have := raws_nil (enc_ne e.symm)
        subst this
        unfold final
        rw [if_pos rfl]
        simpa [vals] using h.inv
      · obtain ⟨h1, h2⟩ := List.append_eq_nil_iff.1 (enc_ne e.symm)
        have := raws_nil h2
        subst this
        unfold final
        rw [if_neg (by show ¬ ((t.fst : Int) = -1); omega)]
        have hv : vals [t] = [(t.fst : Int)] := by
          cases t with
          | ch c => rfl
          | es c => rfl
          | rg a b => cases h1
        rw [hv]
        exact (h.one _).inv
    · have hok : fe = -1 ∨ Cp fe := by
        rcases hF with ⟨e, _⟩ | ⟨t, ts, rfl, _, hs, _⟩
        · exact .inl e
        · exact .inr (fst_cp hs)
      have hn := nrr_ok l.length fe false false l (Nat.le_refl _) hok
      have hsh : Sh (Cu.of (nrr l.length fe false false l)) Y := by
        rcases hF with ⟨rfl, ts, ho, hs, rfl, rfl⟩ | ⟨t, ts, rfl, ho, hs, rfl, rfl⟩
        · cases ts with
          | nil => exact absurd rfl hl0
          | cons t ts => exact sh_start _ t ts ho hs (Nat.le_refl _)
        · exact sh_pend _ t ts ho hs (Nat.le_refl _)
      have eo : outer (f + 1) T c fe l = (if (nrr l.length fe false false l).2.2.2 = 0 then outer f (T.addRune (nrr l.length fe false false l).2.1 c.st) c.upd (nrr l.length fe false false l).2.2.1 (nrr l.length fe false false l).1
        else if (inner (nrr l.length fe false false l).2.2.1 (nrr l.length fe false false l).2.2.2 (c.mu + 1) T c (nrr l.length fe false false l).2.1).2.2 = (nrr l.length fe false false l).2.2.1 then outer f (inner (nrr l.length fe false false l).2.2.1 (nrr l.length fe false false l).2.2.2 (c.mu + 1) T c (nrr l.length fe false false l).2.1).1 (inner (nrr l.length fe false false l).2.2.1 (nrr l.length fe false false l).2.2.2 (c.mu + 1) T c (nrr l.length fe false false l).2.1).2.1 (-1) (nrr l.length fe false false l).1
        else outer f ((inner (nrr l.length fe false false l).2.2.1 (nrr l.length fe false false l).2.2.2 (c.mu + 1) T c (nrr l.length fe false false l).2.1).1.addRange (inner (nrr l.length fe false false l).2.2.1 (nrr l.length fe false false l).2.2.2 (c.mu + 1) T c (nrr l.length fe false false l).2.1).2.2 (nrr l.length fe false false l).2.2.1 (inner (nrr l.length fe false false l).2.2.1 (nrr l.length fe false false l).2.2.2 (c.mu + 1) T c (nrr l.length fe false false l).2.1).2.1.st (inner (nrr l.length fe false false l).2.2.1 (nrr l.length fe false false l).2.2.2 (c.mu + 1) T c (nrr l.length fe false false l).2.1).2.1.st) (inner (nrr l.length fe false false l).2.2.1 (nrr l.length fe false false l).2.2.2 (c.mu + 1) T c (nrr l.length fe false false l).2.1).2.1 (-1) (nrr l.length fe false false l).1) := by
        rw [outer, if_neg hl0]
      rw [eo]
      have hlt := hn.lt hl0
      generalize nrr l.length fe false false l = R at *
      obtain ⟨rest, st, en, sp⟩ := R
      clear hF eo
      have hlt2 : rest.length ≤ f := by have : rest.length < l.length := hlt; omega
      dsimp only
      rcases hsh with ⟨e, rfl⟩ | ⟨t, ts, hsp, hen, ho, hsc, htx, rfl⟩ | ⟨D, ts, hsp, hen, hen1, ho, hsc, htx, rfl⟩
      · obtain ⟨z1, z2⟩ := hn.zero e
        have z1' : sp = 0 := z1
        have z2' : rest = [] := z2
        have e' : en = -1 := e
        subst z2'
        rw [if_pos z1', outer_nil, e']
        unfold final
        rw [if_pos rfl]
        exact (h.one st).inv
      · have hsp' : sp = 0 := hsp
        have hen' : en = (t.fst : Int) := hen
        have htx' : rest = enc (t.rest ++ raws ts) := htx
        rw [if_pos hsp']
        have k := ih _ _ en rest (xs ++ [st]) (vals (t :: ts)) hlt2 (.inr ⟨t, ts, hen', ho, hsc, htx', rfl⟩) (h.one st)
        rw [List.append_assoc] at k
        exact k
      · have hsp' : sp = 1 ∨ sp = -1 := hsp
        have hen' : en = st + D * sp := hen
        have htx' : rest = enc (raws ts) := htx
        have hD : 1 ≤ D := by
          rcases hn.sp with q | ⟨_, q⟩ | ⟨_, q⟩
          · have q' : sp = 0 := q
            omega
          · have q' : st < en := q
            cases D with
            | zero => rw [hen'] at q'; simp at q'
            | succ D => omega
          · have q' : en < st := q
            cases D with
            | zero => rw [hen'] at q'; simp at q'
            | succ D => omega
        rw [if_neg (by omega)]
        have k := inner_ps mm sp hsp' (c.mu + 1) T c xs st D hD (by omega) h
        rw [← hen'] at k
        generalize inner en sp (c.mu + 1) T c st = I at *
        have hF2 : Fr (-1) rest (vals ts) := .inl ⟨rfl, ts, ho, hsc, htx', rfl⟩
        rw [← List.append_assoc]
        unfold fill at k
        split
        · rename_i q
          rw [if_pos q] at k
          exact ih _ _ _ _ _ _ hlt2 hF2 k
        · rename_i q
          rw [if_neg q] at k
          exact ih _ _ _ _ _ _ hlt2 hF2 k

end Go.Proofs.YtbomlhhpokknaaaDoor
