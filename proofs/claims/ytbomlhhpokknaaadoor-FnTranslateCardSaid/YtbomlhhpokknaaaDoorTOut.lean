/- What the translator holds in the end. No program is in sight. -/
import Derived.Test.YtbomlhhpokknaaaDoorTInv
namespace Go.Proofs.YtbomlhhpokknaaaDoor
open Go.Lib U8

/-- A value that a character may have: that of some place where it is listed. -/
def Vd (mm : Nat → Int) (xs : List Int) (r v : Int) : Prop := ∃ i, xs[i]? = some r ∧ v = mm i
theorem Vd.app {mm : Nat → Int} {xs ys : List Int} {r v : Int} (h : Vd mm xs r v) : Vd mm (xs ++ ys) r v := by
  obtain ⟨i, h1, h2⟩ := h
  refine ⟨i, ?_, h2⟩
  rw [List.getElem?_append_left (List.getElem?_eq_some_iff.1 h1).1]; exact h1
theorem Vd.new {mm : Nat → Int} {xs ys : List Int} {r : Int} {i : Nat} (h : ys[i]? = some r) : Vd mm (xs ++ ys) r (mm (xs.length + i)) := by
  refine ⟨xs.length + i, ?_, rfl⟩
  rw [List.getElem?_append_right (by omega), Nat.add_sub_cancel_left]; exact h
structure Inv (mm : Nat → Int) (T : Tr) (xs : List Int) : Prop where
  dv : ∀ r v, r ≤ 127 → T.dict.bind (lkp · r) = some v → Vd mm xs r v
  mv : ∀ r v, T.rmap.bind (lkp · r) = some v → Vd mm xs r v
  rv : ∀ R ∈ T.rgs, ∀ r, R.1 ≤ r → r ≤ R.2.1 → Vd mm xs r (rngAt R r)
  has : ∀ x ∈ xs, (T.look x).isSome = true
theorem Inv.nil (mm : Nat → Int) : Inv mm Tr.nil [] := ⟨fun _ _ _ h => (by cases h), fun _ _ h => (by cases h), fun _ h => (by cases h), fun _ h => (by cases h)⟩
theorem rlook_val {mm : Nat → Int} {xs : List Int} {r v : Int} : ∀ (l : List (Int × Int × Int × Int)), (∀ R ∈ l, R.1 ≤ r → r ≤ R.2.1 → Vd mm xs r (rngAt R r)) → rlook l r = some v → Vd mm xs r v
  | [], _, h => (by cases h)
  | R :: l, k, h => by
    unfold rlook at h
    by_cases c : R.1 ≤ r ∧ r ≤ R.2.1
    · rw [if_pos c] at h; cases h; exact k R (by simp) c.1 c.2
    · rw [if_neg c] at h; exact rlook_val l (fun R hR => k R (by simp [hR])) h
theorem Inv.val {mm : Nat → Int} {T : Tr} {xs : List Int} (h : Inv mm T xs) {r v : Int} (k : T.look r = some v) : Vd mm xs r v := by
  unfold Tr.look at k
  split at k
  · rename_i v' h1
    cases k
    split at h1
    · exact h.dv r _ (by assumption) h1
    · cases h1
  · split at k
    · rename_i v' h1
      cases k
      exact h.mv r _ h1
    · exact rlook_val _ (fun R hR => h.rv R (List.mem_reverse.1 hR) r) k
/-- Whether a character is held. -/
theorem look_some (T : Tr) (r : Int) : (T.look r).isSome = ((decide (r ≤ 127) && (T.dict.bind (lkp · r)).isSome) || (T.rmap.bind (lkp · r)).isSome || (rlook T.rgs.reverse r).isSome) := by
  unfold Tr.look
  by_cases h : r ≤ 127
  · simp only [h, if_true, decide_true, Bool.true_and]
    cases T.dict.bind (lkp · r) <;> cases T.rmap.bind (lkp · r) <;> simp
  · simp only [h, if_false, decide_false, Bool.false_and]
    cases T.rmap.bind (lkp · r) <;> simp
theorem Inv.addRune {mm : Nat → Int} {T : Tr} {xs : List Int} (h : Inv mm T xs) (f t : Int) (ht : t = mm xs.length) : Inv mm (T.addRune f t) (xs ++ [f]) := by
  have hv : Vd mm (xs ++ [f]) f t := by rw [ht]; exact Vd.new (i := 0) rfl
  by_cases hf : f ≤ 127
  · have e : T.addRune f t = { T with dict := some ((f, t) :: T.dict.getD []), sing := T.sing ++ [f] } := by unfold Tr.addRune; rw [if_pos hf]
    have hd : ∀ r, (some ((f, t) :: T.dict.getD [])).bind (lkp · r) = if f = r then some t else T.dict.bind (lkp · r) := fun r => by
      show lkp _ r = _
      rw [lkp_cons]
      by_cases c : f = r
      · rw [if_pos c, if_pos c]
      · rw [if_neg c, if_neg c]; cases T.dict <;> rfl
    rw [e]
    refine ⟨fun r v hr k => ?_, fun r v k => (h.mv r v k).app, fun R hR r h1 h2 => (h.rv R hR r h1 h2).app, fun x hx => ?_⟩
    · rw [hd] at k
      by_cases c : f = r
      · rw [if_pos c] at k; cases k; rw [← c]; exact hv
      · rw [if_neg c] at k; exact (h.dv r v hr k).app
    · rw [look_some]
      dsimp only
      rw [hd]
      by_cases c : f = x
      · rw [if_pos c, ← c]; simp [hf]
      · rw [if_neg c, ← look_some]
        rcases List.mem_append.1 hx with hx | hx
        · exact h.has x hx
        · simp at hx; exact absurd hx.symm c
  · have e : T.addRune f t = { T with rmap := some ((f, t) :: T.rmap.getD []), sing := T.sing ++ [f] } := by unfold Tr.addRune; rw [if_neg hf]
    have hd : ∀ r, (some ((f, t) :: T.rmap.getD [])).bind (lkp · r) = if f = r then some t else T.rmap.bind (lkp · r) := fun r => by
      show lkp _ r = _
      rw [lkp_cons]
      by_cases c : f = r
      · rw [if_pos c, if_pos c]
      · rw [if_neg c, if_neg c]; cases T.rmap <;> rfl
    rw [e]
    refine ⟨fun r v hr k => (h.dv r v hr k).app, fun r v k => ?_, fun R hR r h1 h2 => (h.rv R hR r h1 h2).app, fun x hx => ?_⟩
    · rw [hd] at k
      by_cases c : f = r
      · rw [if_pos c] at k; cases k; rw [← c]; exact hv
      · rw [if_neg c] at k; exact (h.mv r v k).app
    · rw [look_some]
      dsimp only
      rw [hd]
      by_cases c : f = x
      · rw [if_pos c]; simp
      · rw [if_neg c, ← look_some]
        rcases List.mem_append.1 hx with hx | hx
        · exact h.has x hx
        · simp at hx; exact absurd hx.symm c
theorem lkp_dlt_some {r x v : Int} {o : Option (List (Int × Int))} (h : (o.map (dlt r)).bind (lkp · x) = some v) : o.bind (lkp · x) = some v := by
  cases o with
  | none => simp at h
  | some L =>
    simp only [Option.map_some, Option.bind_some] at h ⊢
    by_cases e : x = r
    · subst e; rw [lkp_dlt_same] at h; cases h
    · rw [lkp_dlt_other r x e] at h; exact h
theorem lkp_dlt_far {r x : Int} (e : x ≠ r) (o : Option (List (Int × Int))) : (o.map (dlt r)).bind (lkp · x) = o.bind (lkp · x) := by
  cases o with
  | none => rfl
  | some L => simp only [Option.map_some, Option.bind_some]; exact lkp_dlt_other r x e L
/-- What the clearing leaves. -/
theorem clear_look (lo hi : Int) : ∀ (l : List Int) (T : Tr), (∀ x v, (T.clear lo hi l).dict.bind (lkp · x) = some v → T.dict.bind (lkp · x) = some v) ∧ (∀ x v, (T.clear lo hi l).rmap.bind (lkp · x) = some v → T.rmap.bind (lkp · x) = some v) ∧
    (∀ x, ¬ (lo ≤ x ∧ x ≤ hi) → (T.clear lo hi l).dict.bind (lkp · x) = T.dict.bind (lkp · x) ∧ (T.clear lo hi l).rmap.bind (lkp · x) = T.rmap.bind (lkp · x))
  | [], T => ⟨fun _ _ h => h, fun _ _ h => h, fun _ _ => ⟨rfl, rfl⟩⟩
  | r :: l, T => by
    have ih := clear_look lo hi l (T.clear1 lo hi r)
    have e : T.clear lo hi (r :: l) = (T.clear1 lo hi r).clear lo hi l := rfl
    have s : (∀ x v, (T.clear1 lo hi r).dict.bind (lkp · x) = some v → T.dict.bind (lkp · x) = some v) ∧ (∀ x v, (T.clear1 lo hi r).rmap.bind (lkp · x) = some v → T.rmap.bind (lkp · x) = some v) ∧
        (∀ x, ¬ (lo ≤ x ∧ x ≤ hi) → (T.clear1 lo hi r).dict.bind (lkp · x) = T.dict.bind (lkp · x) ∧ (T.clear1 lo hi r).rmap.bind (lkp · x) = T.rmap.bind (lkp · x)) := by
      unfold Tr.clear1
      split
      · rename_i hin
        split
        · exact ⟨fun x v h => lkp_dlt_some h, fun x v h => h, fun x hx => ⟨lkp_dlt_far (fun e => hx (by rw [e]; exact hin)) _, rfl⟩⟩
        · exact ⟨fun x v h => h, fun x v h => lkp_dlt_some h, fun x hx => ⟨rfl, lkp_dlt_far (fun e => hx (by rw [e]; exact hin)) _⟩⟩
      · exact ⟨fun _ _ h => h, fun _ _ h => h, fun _ _ => ⟨rfl, rfl⟩⟩
    rw [e]
    exact ⟨fun x v h => s.1 x v (ih.1 x v h), fun x v h => s.2.1 x v (ih.2.1 x v h), fun x hx => ⟨(ih.2.2 x hx).1.trans (s.2.2 x hx).1, (ih.2.2 x hx).2.trans (s.2.2 x hx).2⟩⟩
theorem Inv.addR {mm : Nat → Int} {T : Tr} {xs ys : List Int} (h : Inv mm T xs) (R : Int × Int × Int × Int) (h1 : ∀ r, R.1 ≤ r → r ≤ R.2.1 → Vd mm (xs ++ ys) r (rngAt R r)) (h2 : ∀ y ∈ ys, R.1 ≤ y ∧ y ≤ R.2.1) : Inv mm (T.addR R) (xs ++ ys) := by
  have hk := clear_keeps R.1 R.2.1 T.sing T
  obtain ⟨k1, k2, k3⟩ := clear_look R.1 R.2.1 T.sing T
  have e : T.addR R = { T.clear R.1 R.2.1 T.sing with rgs := T.rgs ++ [R] } := rfl
  rw [e]
  generalize T.clear R.1 R.2.1 T.sing = T2 at *
  refine ⟨fun r v hr k => (h.dv r v hr (k1 r v k)).app, fun r v k => (h.mv r v (k2 r v k)).app, fun X hX r q1 q2 => ?_, fun x hx => ?_⟩
  · rcases List.mem_append.1 hX with hX | hX
    · exact (h.rv X hX r q1 q2).app
    · simp at hX; subst hX; exact h1 r q1 q2
  · rw [look_some]
    dsimp only
    have er : (rlook (T.rgs ++ [R]).reverse x) = if R.1 ≤ x ∧ x ≤ R.2.1 then some (rngAt R x) else rlook T.rgs.reverse x := by rw [List.reverse_append]; rfl
    rw [er]
    by_cases c : R.1 ≤ x ∧ x ≤ R.2.1
    · rw [if_pos c]; simp
    · rw [if_neg c, (k3 x c).1, (k3 x c).2, ← look_some]
      rcases List.mem_append.1 hx with hx | hx
      · exact h.has x hx
      · exact absurd (h2 x hx) c
/-- A range from a on by s, to c on by u. -/
theorem rng_at (a c s u : Int) (n : Nat) (hs : s = 1 ∨ s = -1) (hu : u = 1 ∨ u = -1 ∨ u = 0) (i : Nat) (hi : i ≤ n) :
    rngAt (ordR a (a + n * s) c (c + n * u)) (a + i * s) = c + i * u := by
  unfold rngAt ordR
  rcases hs with rfl | rfl <;> rcases hu with rfl | rfl | rfl <;> simp only [Int.mul_one, Int.mul_zero, Int.mul_neg] <;> (repeat' split) <;> simp_all <;> omega
theorem rng_in (a c d s : Int) (n : Nat) (hs : s = 1 ∨ s = -1) (r : Int) : ((ordR a (a + n * s) c d).1 ≤ r ∧ r ≤ (ordR a (a + n * s) c d).2.1) ↔ ∃ i : Nat, i ≤ n ∧ r = a + i * s := by
  unfold ordR
  constructor
  · intro h
    rcases hs with rfl | rfl
    · simp only [Int.mul_one] at *
      split at h
      · dsimp only at h; exact ⟨(r - a).toNat, by omega, by omega⟩
      · dsimp only at h; exact ⟨0, by omega, by omega⟩
    · simp only [Int.mul_neg, Int.mul_one] at *
      split at h
      · omega
      · dsimp only at h; exact ⟨(a - r).toNat, by omega, by omega⟩
  · rintro ⟨i, hi, rfl⟩
    rcases hs with rfl | rfl
    · simp only [Int.mul_one]
      split <;> dsimp only <;> omega
    · simp only [Int.mul_neg, Int.mul_one]
      split <;> dsimp only <;> omega
theorem Inv.addRange {mm : Nat → Int} {T : Tr} {xs : List Int} (h : Inv mm T xs) (a c s u : Int) (n : Nat) (hs : s = 1 ∨ s = -1) (hu : u = 1 ∨ u = -1 ∨ u = 0) (hm : ∀ i : Nat, i ≤ n → mm (xs.length + i) = c + i * u) :
    Inv mm (T.addRange a (a + n * s) c (c + n * u)) (xs ++ seqI a s (n + 1)) := by
  refine Inv.addR h _ (fun r h1 h2 => ?_) (fun y hy => ?_)
  · obtain ⟨i, hi, rfl⟩ := (rng_in a c (c + n * u) s n hs r).1 ⟨h1, h2⟩
    rw [rng_at a c s u n hs hu i hi, ← hm i hi]
    exact Vd.new (seqI_get a s (n + 1) i (by omega))
  · obtain ⟨i, hi, rfl⟩ := seqI_mem hy
    exact (rng_in a c (c + n * u) s n hs _).2 ⟨i, by omega, rfl⟩

end Go.Proofs.YtbomlhhpokknaaaDoor
