/- The translator against a pattern's parts: what it holds of each character. No program is in sight. -/
import Derived.Test.YtbomlhhpokknaaaDoorTToks
import Derived.Test.YtbomlhhpokknaaaDoorTrLaws
namespace Go.Proofs.YtbomlhhpokknaaaDoor
open Go.Lib U8

theorem nrr_c (f : Nat) (last : Int) (e i : Bool) (c : Nat) (r : List Nat) (hc : Sc c) : nrr (f + 1) last e i (enc (c :: r)) = (if e = false ∧ (c : Int) = 92 then nrr f last true i (enc r)
      else if e = false ∧ (c : Int) = 45 then (if last = -1 then nrr f last false i (enc r) else nrr f last false true (enc r))
      else if last = -1 then nrr f c false i (enc r)
      else if i = true ∧ last = (c : Int) then nrr f last false false (enc r)
      else (enc r, last, (c : Int), if i then (if last < (c : Int) then 1 else -1) else 0)) := by
  rw [enc_cons]; exact nrr_step f last e i (enc1 c) (enc r) c (enc1_ne c) (decode_enc1 c hc _)
theorem enc_pos {c : Nat} {r : List Nat} : (enc r).length + 1 ≤ (enc (c :: r)).length := by
  have := enc1_pos c
  rw [enc_cons, List.length_append]; omega

/-- A CURSOR, and the characters that it still has to tell. -/
def Sh (c : Cu) (Z : List Int) : Prop :=
  (c.en = -1 ∧ Z = [c.st]) ∨
  (∃ t ts, c.sp = 0 ∧ c.en = (t.fst : Int) ∧ Oks (t :: ts) ∧ Scs (raws (t :: ts)) ∧ c.tx = enc (t.rest ++ raws ts) ∧ Z = c.st :: vals (t :: ts)) ∨
  (∃ (D : Nat) (ts : List Tok), (c.sp = 1 ∨ c.sp = -1) ∧ c.en = c.st + D * c.sp ∧ c.en ≠ -1 ∧ Oks ts ∧ Scs (raws ts) ∧ c.tx = enc (raws ts) ∧ Z = seqI c.st c.sp (D + 1) ++ vals ts)

theorem sh_one (g : Nat) (x : Nat) (ts : List Tok) (ho : Oks ts) (hs : Scs (raws ts)) (hg : (enc (raws ts)).length ≤ g) : Sh (Cu.of (nrr g x false false (enc (raws ts)))) ((x : Int) :: vals ts) := by
  have hx : ¬ ((x : Int) = -1) := by omega
  cases ts with
  | nil =>
    have e : enc (raws []) = [] := rfl
    rw [e, nrr_nil, if_neg hx]
    exact .inl ⟨rfl, rfl⟩
  | cons t ts =>
    have ho1 := ho.head
    cases t with
    | ch y =>
      have e : raws (.ch y :: ts) = y :: raws ts := by rw [raws_cons]; rfl
      rw [e] at hg hs ⊢
      have := enc_pos (c := y) (r := raws ts)
      obtain ⟨g, rfl⟩ : ∃ m, g = m + 1 := ⟨g - 1, by omega⟩
      rw [nrr_c g x false false y _ hs.head, if_neg (by have := ho1.1; omega), if_neg (by have := ho1.2; omega), if_neg hx, if_neg (by simp)]
      exact .inr (.inl ⟨.ch y, ts, rfl, rfl, ho, by rw [e]; exact hs, rfl, rfl⟩)
    | es y =>
      have e : raws (.es y :: ts) = 92 :: y :: raws ts := by rw [raws_cons]; rfl
      rw [e] at hg hs ⊢
      have := enc_pos (c := 92) (r := y :: raws ts)
      have := enc_pos (c := y) (r := raws ts)
      obtain ⟨g, rfl⟩ : ∃ m, g = m + 1 + 1 := ⟨g - 2, by omega⟩
      rw [nrr_c (g + 1) x false false 92 _ hs.head, if_pos ⟨rfl, rfl⟩, nrr_c g x true false y _ hs.tail.head, if_neg (by simp), if_neg (by simp), if_neg hx, if_neg (by simp)]
      exact .inr (.inl ⟨.es y, ts, rfl, rfl, ho, by rw [e]; exact hs, rfl, rfl⟩)
    | rg y b =>
      have e : raws (.rg y b :: ts) = y :: (45 :: b :: raws ts) := by rw [raws_cons]; rfl
      rw [e] at hg hs ⊢
      have := enc_pos (c := y) (r := 45 :: b :: raws ts)
      obtain ⟨g, rfl⟩ : ∃ m, g = m + 1 := ⟨g - 1, by omega⟩
      rw [nrr_c g x false false y _ hs.head, if_neg (by have := ho1.1; omega), if_neg (by have := ho1.2; omega), if_neg hx, if_neg (by simp)]
      exact .inr (.inl ⟨.rg y b, ts, rfl, rfl, ho, by rw [e]; exact hs, rfl, rfl⟩)
theorem sh_pend (g : Nat) (t : Tok) (ts : List Tok) (ho : Oks (t :: ts)) (hs : Scs (raws (t :: ts))) (hg : (enc (t.rest ++ raws ts)).length ≤ g) : Sh (Cu.of (nrr g t.fst false false (enc (t.rest ++ raws ts)))) (vals (t :: ts)) := by
  rw [raws_cons] at hs
  have ho1 := ho.head
  rw [vals_cons]
  cases t with
  | ch x => exact sh_one g x ts ho.tail hs.right hg
  | es x => exact sh_one g x ts ho.tail hs.right hg
  | rg a b =>
    have e : Tok.rest (.rg a b) ++ raws ts = 45 :: b :: raws ts := rfl
    have e2 : Tok.raw (.rg a b) ++ raws ts = a :: 45 :: b :: raws ts := rfl
    rw [e] at hg ⊢
    rw [e2] at hs
    have := enc_pos (c := 45) (r := b :: raws ts)
    have := enc_pos (c := b) (r := raws ts)
    obtain ⟨g, rfl⟩ : ∃ m, g = m + 1 + 1 := ⟨g - 2, by omega⟩
    have ha : ¬ ((a : Int) = -1) := by omega
    show Sh (Cu.of (nrr (g + 1 + 1) (a : Nat) false false _)) (seqI _ _ _ ++ _)
    rw [nrr_c (g + 1) a false false 45 _ hs.tail.head, if_neg (by simp), if_pos ⟨rfl, rfl⟩, if_neg ha, nrr_c g a false true b _ hs.tail.tail.head, if_neg (by have := ho1.2.2.1; omega), if_neg (by have := ho1.2.2.2; omega), if_neg ha]
    by_cases hab : a = b
    · subst hab
      rw [if_pos ⟨rfl, rfl⟩, show dist a a = 0 by unfold dist; omega, seqI_one]
      exact sh_one g a ts ho.tail hs.tail.tail.tail (by omega)
    · rw [if_neg (by intro h; have := h.2; omega)]
      refine .inr (.inr ⟨dist a b, ts, ?_, ?_, ?_, ho.tail, hs.tail.tail.tail, rfl, ?_⟩)
      · show (if true = true then if (a : Int) < b then (1 : Int) else -1 else 0) = 1 ∨ _ = -1
        by_cases h : (a : Int) < b
        · left; simp [h]
        · right; show (if true = true then if (a : Int) < b then (1 : Int) else -1 else 0) = -1; simp [h]
      · show (b : Int) = (a : Int) + dist a b * (if true = true then if (a : Int) < b then (1 : Int) else -1 else 0)
        unfold dist
        by_cases h : (a : Int) < b
        · simp [h]; omega
        · simp [h]; omega
      · show ¬ ((b : Int) = -1); omega
      · show _ = seqI (a : Int) (if true = true then if (a : Int) < b then (1 : Int) else -1 else 0) _ ++ _
        congr 2
        unfold sgn
        by_cases h : a < b
        · simp [h]
        · simp [h]
theorem sh_start (g : Nat) (t : Tok) (ts : List Tok) (ho : Oks (t :: ts)) (hs : Scs (raws (t :: ts))) (hg : (enc (raws (t :: ts))).length ≤ g) : Sh (Cu.of (nrr g (-1) false false (enc (raws (t :: ts))))) (vals (t :: ts)) := by
  have ho1 := ho.head
  have K := fun g h => sh_pend g t ts ho hs h
  cases t with
  | ch y =>
    have e : raws (.ch y :: ts) = y :: raws ts := by rw [raws_cons]; rfl
    rw [e] at hg hs ⊢
    have := enc_pos (c := y) (r := raws ts)
    obtain ⟨g, rfl⟩ : ∃ m, g = m + 1 := ⟨g - 1, by omega⟩
    rw [nrr_c g (-1) false false y _ hs.head, if_neg (by have := ho1.1; omega), if_neg (by have := ho1.2; omega), if_pos rfl]
    exact K g (by show (enc (raws ts)).length ≤ g; omega)
  | es y =>
    have e : raws (.es y :: ts) = 92 :: y :: raws ts := by rw [raws_cons]; rfl
    rw [e] at hg hs ⊢
    have := enc_pos (c := 92) (r := y :: raws ts)
    have := enc_pos (c := y) (r := raws ts)
    obtain ⟨g, rfl⟩ : ∃ m, g = m + 1 + 1 := ⟨g - 2, by omega⟩
    rw [nrr_c (g + 1) (-1) false false 92 _ hs.head, if_pos ⟨rfl, rfl⟩, nrr_c g (-1) true false y _ hs.tail.head, if_neg (by simp), if_neg (by simp), if_pos rfl]
    exact K g (by show (enc (raws ts)).length ≤ g; omega)
  | rg y b =>
    have e : raws (.rg y b :: ts) = y :: (45 :: b :: raws ts) := by rw [raws_cons]; rfl
    rw [e] at hg hs ⊢
    have := enc_pos (c := y) (r := 45 :: b :: raws ts)
    obtain ⟨g, rfl⟩ : ∃ m, g = m + 1 := ⟨g - 1, by omega⟩
    rw [nrr_c g (-1) false false y _ hs.head, if_neg (by have := ho1.1; omega), if_neg (by have := ho1.2; omega), if_pos rfl]
    exact K g (by show (enc (45 :: b :: raws ts)).length ≤ g; omega)

/-! ### the characters that are to come -/
def nth (Z : List Int) (j : Nat) : Int := (Z[min j (Z.length - 1)]?).getD 0
def nxt (Z : List Int) : List Int := if Z.tail = [] then Z else Z.tail
theorem nth_zero {z : Int} {Z : List Int} : nth (z :: Z) 0 = z := by simp [nth]
theorem nth_nxt (Z : List Int) (hZ : Z ≠ []) (j : Nat) : nth Z (j + 1) = nth (nxt Z) j := by
  unfold nxt
  cases Z with
  | nil => exact absurd rfl hZ
  | cons z Z =>
    rw [List.tail_cons]
    cases Z with
    | nil => rw [if_pos rfl]; simp [nth]
    | cons y Y =>
      rw [if_neg (by simp)]
      unfold nth
      simp only [List.length_cons]
      rw [show min (j + 1) (Y.length + 1 + 1 - 1) = min j (Y.length + 1 - 1) + 1 by omega, List.getElem?_cons_succ]
theorem nth_app (X Y : List Int) (hY : Y ≠ []) (j : Nat) : nth (X ++ Y) (X.length + j) = nth Y j := by
  have hl : 0 < Y.length := List.length_pos_iff.2 hY
  unfold nth
  rw [List.length_append, List.getElem?_append_right (by omega)]
  congr 2
  omega
theorem nth_left (X Y : List Int) (j : Nat) (h : j < X.length) : (X ++ Y)[j]? = some (nth (X ++ Y) j) := by
  unfold nth
  rw [List.length_append, show min j (X.length + Y.length - 1) = j by omega]
  have : j < (X ++ Y).length := by rw [List.length_append]; omega
  rw [List.getElem?_eq_getElem this]; rfl

theorem Sh.ne {c : Cu} {Z : List Int} (h : Sh c Z) : Z ≠ [] := by
  rcases h with ⟨_, rfl⟩ | ⟨t, ts, _, _, _, _, _, rfl⟩ | ⟨D, ts, _, _, _, _, _, _, rfl⟩
  · simp
  · simp
  · rw [seqI_succ]; simp
theorem Sh.hd {c : Cu} {Z : List Int} (h : Sh c Z) : nth Z 0 = c.st := by
  rcases h with ⟨_, rfl⟩ | ⟨t, ts, _, _, _, _, _, rfl⟩ | ⟨D, ts, _, _, _, _, _, _, rfl⟩
  · exact nth_zero
  · exact nth_zero
  · rw [seqI_succ]; exact nth_zero
theorem enc_ne {r : List Nat} (h : enc r = []) : r = [] := by
  cases r with
  | nil => rfl
  | cons c r => have := enc_pos (c := c) (r := r); rw [h] at this; simp at this
theorem raws_nil {ts : List Tok} (h : raws ts = []) : ts = [] := by
  cases ts with
  | nil => rfl
  | cons t ts => rw [raws_cons] at h; exact absurd (List.append_eq_nil_iff.1 h).1 (raw_ne t)
theorem Sh.upd {c : Cu} {Z : List Int} (h : Sh c Z) : Sh c.upd (nxt Z) := by
  rcases h with ⟨h, rfl⟩ | ⟨t, ts, hsp, hen, ho, hs, htx, rfl⟩ | ⟨D, ts, hsp, hen, hen1, ho, hs, htx, rfl⟩
  · have : c.upd = c := by unfold Cu.upd; rw [if_pos h]
    rw [this]
    exact .inl ⟨h, rfl⟩
  · have : c.upd = Cu.of (nrr c.tx.length t.fst false false (enc (t.rest ++ raws ts))) := by
      unfold Cu.upd; rw [if_neg (by omega), if_pos hsp, hen, htx]
    rw [this]
    have hn : nxt (c.st :: vals (t :: ts)) = vals (t :: ts) := by
      unfold nxt
      rw [List.tail_cons, if_neg]
      rw [vals_cons]
      intro h
      exact vals_ne t (List.append_eq_nil_iff.1 h).1
    rw [hn]
    exact sh_pend _ t ts ho hs (by rw [htx]; exact Nat.le_refl _)
  · have hsp0 : ¬ c.sp = 0 := by omega
    cases D with
    | succ D =>
      have hne : c.st ≠ c.en := by rw [hen]; rcases hsp with h | h <;> rw [h] <;> push_cast <;> omega
      have : c.upd = { c with st := c.st + c.sp } := by
        unfold Cu.upd; rw [if_neg hen1, if_neg hsp0, if_pos hne]
      rw [this]
      have hn : nxt (seqI c.st c.sp (D + 1 + 1) ++ vals ts) = seqI (c.st + c.sp) c.sp (D + 1) ++ vals ts := by
        unfold nxt
        rw [seqI_succ, List.cons_append, List.tail_cons, if_neg]
        rw [seqI_succ]; simp
      rw [hn]
      refine .inr (.inr ⟨D, ts, hsp, ?_, hen1, ho, hs, htx, rfl⟩)
      show c.en = c.st + c.sp + D * c.sp
      rw [hen]; push_cast; rw [Int.add_mul, Int.one_mul]; omega
    | zero =>
      have heq : ¬ c.st ≠ c.en := by rw [hen]; simp
      rw [seqI_one]
      cases ts with
      | nil =>
        have ht : c.tx = [] := by rw [htx]; rfl
        have : c.upd = { c with en := -1 } := by
          unfold Cu.upd; rw [if_neg hen1, if_neg hsp0, if_neg heq, if_pos ht]
        rw [this]
        exact .inl ⟨rfl, rfl⟩
      | cons t ts =>
        have ht : ¬ c.tx = [] := by rw [htx]; intro h; exact absurd (raws_nil (enc_ne h)) (by simp)
        have : c.upd = Cu.of (nrr c.tx.length (-1) false false (enc (raws (t :: ts)))) := by
          unfold Cu.upd; rw [if_neg hen1, if_neg hsp0, if_neg heq, if_neg ht, htx]
        rw [this]
        have hn : nxt ([c.st] ++ vals (t :: ts)) = vals (t :: ts) := by
          unfold nxt
          rw [List.singleton_append, List.tail_cons, if_neg]
          rw [vals_cons]
          intro h
          exact vals_ne t (List.append_eq_nil_iff.1 h).1
        rw [hn]
        exact sh_start _ t ts ho hs (by rw [htx]; exact Nat.le_refl _)
/-- The cursor of a range of the second pattern, moved on by E. -/
theorem Sh.skip {c : Cu} {D E : Nat} {ts : List Tok} (hsp : c.sp = 1 ∨ c.sp = -1) (hen : c.en = c.st + D * c.sp) (hen1 : c.en ≠ -1) (ho : Oks ts) (hs : Scs (raws ts)) (htx : c.tx = enc (raws ts)) (hE : E ≤ D) :
    Sh { c with st := c.st + E * c.sp } (seqI (c.st + E * c.sp) c.sp (D - E + 1) ++ vals ts) := by
  refine .inr (.inr ⟨D - E, ts, hsp, ?_, hen1, ho, hs, htx, rfl⟩)
  show c.en = c.st + E * c.sp + ((D - E : Nat) : Int) * c.sp
  rw [hen, show (D : Int) = (E : Int) + ((D - E : Nat) : Int) by omega, Int.add_mul]; omega

end Go.Proofs.YtbomlhhpokknaaaDoor
