/- What a character becomes by two patterns: plain laws. No program is in sight. -/
import Derived.Test.YtbomlhhpokknaaaDoorTMapd
namespace Go.Proofs.YtbomlhhpokknaaaDoor
open Go.Lib U8

theorem inner_cu (fe sp : Int) : ∀ (f : Nat) (T : Tr) (c : Cu) (fs : Int), c.en = -1 → inner fe sp f T c fs = (T, c, fs)
  | 0, _, _, _, _ => rfl
  | f + 1, T, c, fs, h => by unfold inner; rw [if_neg (by simp [h])]
theorem upd_cu {c : Cu} (h : c.en = -1) : c.upd = c := by unfold Cu.upd; rw [if_pos h]
theorem outer_cu : ∀ (f : Nat) (T : Tr) (c : Cu) (fe : Int) (l : List UInt8), c.en = -1 → (outer f T c fe l).2.1 = c
  | 0, _, _, _, _, _ => rfl
  | f + 1, T, c, fe, l, h => by
    unfold outer
    split
    · rfl
    · dsimp only
      rw [inner_cu _ _ _ _ _ _ h, upd_cu h]
      dsimp only
      split
      · exact outer_cu f _ _ _ _ h
      · split
        · exact outer_cu f _ _ _ _ h
        · exact outer_cu f _ _ _ _ h
theorem final_cu (X : Tr × Cu × Int) : (final X).2 = X.2.1 := by unfold final; split <;> rfl
theorem lastR_enc : ∀ (f : Nat) (x : Int) (qs : List Nat) (q : Nat), Scs (qs ++ [q]) → (enc (qs ++ [q])).length ≤ f → lastR f x (enc (qs ++ [q])) = (q : Int)
  | 0, x, qs, q, _, h => by
    have : 0 < (enc (qs ++ [q])).length := by rw [enc_append, List.length_append, enc_one]; have := enc1_pos q; omega
    omega
  | f + 1, x, [], q, hs, h => by
    unfold lastR
    have e : enc ([] ++ [q]) = enc [q] := rfl
    have hd := decode_enc1 q hs.head []
    rw [e, if_neg (enc_nonnil (by simp)), enc_one]
    rw [List.append_nil] at hd
    rw [hd, List.drop_length]
    cases f with
    | zero => rfl
    | succ f => unfold lastR; rw [if_pos rfl]
  | f + 1, x, a :: qs, q, hs, h => by
    unfold lastR
    have hd := decode_enc1 a hs.head (enc (qs ++ [q]))
    have hl := enc_pos (c := a) (r := qs ++ [q])
    rw [List.cons_append] at h hs ⊢
    rw [if_neg (enc_nonnil (by simp)), enc_cons, hd]
    dsimp only
    rw [List.drop_left]
    exact lastR_enc f _ qs q hs.tail (by omega)
theorem last_one {qs M : List Nat} (h : pat true qs = some M) (hM : M.length = 1) : ∃ qs' m, qs = qs' ++ [m] ∧ M = [m] := by
  obtain ⟨ts, ho, hr, hv⟩ := pat_toks h
  have hn : notOf true qs = false := rfl
  rw [hn] at hr
  obtain ⟨m, rfl⟩ : ∃ m, M = [m] := by
    cases M with
    | nil => cases hM
    | cons m M => cases M with
      | nil => exact ⟨m, rfl⟩
      | cons _ _ => simp at hM
  cases ts with
  | nil => cases hv
  | cons t ts =>
    cases ts with
    | cons t2 ts =>
      have hl := congrArg List.length hv
      rw [vals_cons, vals_cons, List.length_append, List.length_append] at hl
      have h1 := List.length_pos_iff.2 (vals_ne t)
      have h2 := List.length_pos_iff.2 (vals_ne t2)
      simp [cast] at hl
      omega
    | nil =>
      have hr' : t.raw = qs := by rw [← (show raws [t] = qs from hr)]; simp [raws]
      have hv' : [(m : Int)] = t.vals := by rw [show t.vals = vals [t] by simp [vals]]; exact hv
      cases t with
      | ch c =>
        have : (m : Int) = c := by simpa [Tok.vals] using hv'
        have : m = c := by omega
        subst this
        exact ⟨[], m, hr'.symm, rfl⟩
      | es c =>
        have : (m : Int) = c := by simpa [Tok.vals] using hv'
        have : m = c := by omega
        subst this
        exact ⟨[92], m, hr'.symm, rfl⟩
      | rg a b =>
        have hl := congrArg List.length hv'
        have hv2 : [(m : Int)] = seqI a (sgn a b) (dist a b + 1) := hv'
        rw [show Tok.vals (.rg a b) = seqI a (sgn a b) (dist a b + 1) from rfl, seqI_length] at hl
        have hd : dist a b = 0 := by simp at hl; omega
        have hab : a = b := by unfold dist at hd; omega
        rw [hd, seqI_one] at hv2
        have : (m : Int) = a := by simpa using hv2
        have : m = a := by omega
        subst this; subst hab
        exact ⟨[m, 45], m, hr'.symm, rfl⟩
theorem pat_ne {qs M : List Nat} (h : pat true qs = some M) (hq : qs ≠ []) : M ≠ [] := by
  obtain ⟨ts, ho, hr, hv⟩ := pat_toks h
  have hn : notOf true qs = false := rfl
  rw [hn] at hr
  rintro rfl
  cases ts with
  | nil => exact hq hr.symm
  | cons t ts =>
    rw [vals_cons] at hv
    exact vals_ne t (List.append_eq_nil_iff.1 hv.symm).1

/-- TRANSLATE's law. -/
theorem trans_law (ps qs : List Nat) (hp : Scs ps) (hq : Scs qs) (hqn : qs ≠ []) {L M : List Nat} (h1 : pat false ps = some L) (h2 : pat true qs = some M) (c : Nat) (out : Int) (fnd : Bool) (hm : MapSays L (notOf false ps) M c out fnd) :
    (newTr (enc ps) (enc qs)).hit (c : Int) = fnd ∧ ((newTr (enc ps) (enc qs)).trans (c : Int)).1 = out ∧ (newTr (enc ps) (enc qs)).del = false := by
  have hdel : decide (enc qs = []) = false := decide_eq_false (enc_nonnil hqn)
  by_cases hpe : ps = []
  · subst hpe
    have hL := pat_nil false h1
    subst hL
    have hf : fnd = false ∧ out = (c : Int) := by
      rcases hm with ⟨e, _⟩ | ⟨_, e, h3, _⟩
      · cases e
      · have e' : fnd = false := by rw [e]; rfl
        exact ⟨e', h3 e'⟩
    rw [hf.1, hf.2]
    have e : newTr (enc []) (enc qs) = ⟨Tr.nil, 0, false, false, false⟩ := by unfold newTr; rw [if_pos enc_nil]
    rw [e]
    refine ⟨?_, ?_, rfl⟩
    · unfold Tx.hit
      have : Tr.nil.look (c : Int) = none := by unfold Tr.look Tr.nil; simp [rlook]
      dsimp only; rw [this]; rfl
    · unfold Tx.trans Tx.res
      have : Tr.nil.look (c : Int) = none := by unfold Tr.look Tr.nil; simp [rlook]
      dsimp only; rw [this]; rfl
  rcases hm with ⟨hnt, hM1, hfn, hout⟩ | ⟨hnt, hfn, ho1, ho2⟩
  · obtain ⟨qs', m, rfl, rfl⟩ := last_one h2 hM1
    have hcu : cu0 true (enc (qs' ++ [m])) = ⟨[], (m : Int), -1, 0⟩ := by
      unfold cu0
      rw [if_neg (enc_nonnil hqn), if_pos rfl, lastR_enc _ _ qs' m hq (Nat.le_refl _)]
    have hsh : Sh (cu0 true (enc (qs' ++ [m]))) [(m : Int)] := by rw [hcu]; exact .inl ⟨rfl, rfl⟩
    have k := held ps hp h1 _ hsh
    rw [newTr_of ps hp hpe, hnt] at *
    have hst : ∀ l : List UInt8, (final (outer l.length Tr.nil (cu0 true (enc (qs' ++ [m]))) (-1) l)).2.st = (m : Int) := fun l => by
      rw [final_cu, outer_cu _ _ _ _ _ (by rw [hcu]), hcu]
    refine ⟨?_, ?_, hdel⟩
    · unfold Tx.hit
      dsimp only
      rw [k.look_mem c, hfn]
      unfold inS
      cases L.any (· == c) <;> rfl
    · unfold Tx.trans Tx.res
      dsimp only
      have kl := k.look_mem c
      rw [hout, hfn]
      unfold inS
      cases hl : (final (outer (enc (if true = true then ps.drop 1 else ps)).length Tr.nil (cu0 true (enc (qs' ++ [m]))) (-1) (enc (if true = true then ps.drop 1 else ps)))).1.look (c : Int) with
      | none =>
        rw [hl] at kl
        rw [← kl]
        simp only [if_true, or_true, Option.isSome_none]
        rw [hst]
        simp [cast, nth]
      | some v =>
        rw [hl] at kl
        rw [← kl]
        simp
  · have hcu : Sh (cu0 false (enc qs)) (cast M) := by
      obtain ⟨ts, ho, hr, hv⟩ := pat_toks h2
      have hr' : raws ts = qs := hr
      unfold cu0
      rw [if_neg (enc_nonnil hqn), if_neg (by simp), hv, ← hr']
      cases ts with
      | nil => exact absurd hr'.symm hqn
      | cons t ts => exact sh_start _ t ts ho (by rw [hr']; exact hq) (Nat.le_refl _)
    have k := held ps hp h1 (cu0 (notOf false ps) (enc qs)) (by rw [hnt]; exact hcu)
    rw [newTr_of ps hp hpe, hnt] at *
    refine ⟨?_, ?_, hdel⟩
    · unfold Tx.hit
      dsimp only
      rw [k.look_mem c, hfn]
      unfold inS
      cases L.any (· == c) <;> rfl
    · unfold Tx.trans Tx.res
      dsimp only
      have kl := k.look_mem c
      rw [if_neg (show ¬ (enc qs = [] ∨ false = true) by simp [enc_nonnil hqn])]
      cases hl : (final (outer (enc (if false = true then ps.drop 1 else ps)).length Tr.nil (cu0 false (enc qs)) (-1) (enc (if false = true then ps.drop 1 else ps)))).1.look (c : Int) with
      | none =>
        rw [hl] at kl
        have e : fnd = false := by rw [hfn]; unfold inS; rw [← kl]; rfl
        rw [ho1 e]; rfl
      | some v =>
        rw [hl] at kl
        have e : fnd = true := by rw [hfn]; unfold inS; rw [← kl]; rfl
        obtain ⟨i, hi, rfl⟩ := k.val hl
        have hi2 : L[i]? = some c := by
          unfold cast at hi
          rw [List.getElem?_map] at hi
          cases hx : L[i]? with
          | none => rw [hx] at hi; cases hi
          | some x =>
            rw [hx] at hi
            have : (x : Int) = c := by simpa using hi
            have : x = c := by omega
            rw [this]
        rw [ho2 e i hi2]
        rfl

end Go.Proofs.YtbomlhhpokknaaaDoor
