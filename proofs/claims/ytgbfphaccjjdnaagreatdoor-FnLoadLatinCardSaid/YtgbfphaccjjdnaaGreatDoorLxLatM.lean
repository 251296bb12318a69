/- Plain: values whose expressions are whole; their expansion ends. No program is in sight. Plain: how much the values of a text may weigh. No program is in sight. laws.latin, laws.dollars, laws.begins (of the mark of bytes' order), laws.whole. Conditions: the texts' lengths. laws.whole. Condition: the text's length. properties.ZzItems, impl.Items: the items of a text. Conditions: the tables that are laid, the text's length. Loading a text of ISO-8859-1. Conditions: the text's length; expansion's plain form ends. laws.values, laws.tame. Conditions: the tables that are laid, the text's length. laws.eqProps at lists that are alike. Conditions: their lengths. FnLoadLatin: its walk. Conditions: the tables that are laid. -/
import Derived.Test.YtgbfphaccjjdnaaGreatDoorLxExpand
import Derived.Test.YtgbfphaccjjdnaaGreatDoorLxNotesP
import Derived.Test.YtgbfphaccjjdnaaGreatDoorLxRun
import Derived.Test.YtgbfphaccjjdnaaGreatDoorLxLoadM
import Derived.Test.YtgbfphaccjjdnaaGreatDoorLxHelp
namespace Go.Proofs.YtgbfphaccjjdnaaGreatDoor
open Go.RowKit U8
open Go.Lib hiding intOf

/-- Whether the signs of expressions stand in whole expressions alone (true: within one). -/
def whS : Bool → List UInt8 → Bool
  | _, [] => true
  | false, c :: t => if c = 123 ∨ c = 125 then false else if c = 36 then (match t with | [] => false | d :: t2 => if d = 123 then whS true t2 else false) else whS false t
  | true, c :: t => if c = 125 then whS false t else if c = 36 ∨ c = 123 then false else whS true t
/-- A text without the signs of expressions. -/
def Pl (l : List UInt8) : Prop := ∀ c ∈ l, c ≠ 36 ∧ c ≠ 123 ∧ c ≠ 125
theorem Pl.nil : Pl [] := fun _ h => by cases h
theorem Pl.cons {c : UInt8} {l : List UInt8} (h : c ≠ 36 ∧ c ≠ 123 ∧ c ≠ 125) (k : Pl l) : Pl (c :: l) := fun x hx => by
  rcases List.mem_cons.1 hx with rfl | hx
  · exact h
  · exact k x hx
theorem Pl.head {c : UInt8} {l : List UInt8} (h : Pl (c :: l)) : c ≠ 36 ∧ c ≠ 123 ∧ c ≠ 125 := h c (by simp)
theorem Pl.tail {c : UInt8} {l : List UInt8} (h : Pl (c :: l)) : Pl l := fun x hx => h x (by simp [hx])
theorem Pl.app {a b : List UInt8} (h : Pl a) (k : Pl b) : Pl (a ++ b) := fun x hx => by
  rcases List.mem_append.1 hx with hx | hx
  · exact h x hx
  · exact k x hx
theorem wh_in : ∀ t, whS true t = true → Pl t ∨ ∃ k t2, t = k ++ 125 :: t2 ∧ Pl k ∧ whS false t2 = true
  | [], _ => .inl Pl.nil
  | c :: t, h => by
    rw [whS] at h
    by_cases h1 : c = 125
    · rw [if_pos h1] at h
      exact .inr ⟨[], t, by rw [h1]; rfl, Pl.nil, h⟩
    · rw [if_neg h1] at h
      by_cases h2 : c = 36 ∨ c = 123
      · rw [if_pos h2] at h; cases h
      · rw [if_neg h2] at h
        have hc : c ≠ 36 ∧ c ≠ 123 ∧ c ≠ 125 := ⟨fun e => h2 (.inl e), fun e => h2 (.inr e), h1⟩
        rcases wh_in t h with hp | ⟨k, t2, rfl, hk, ht⟩
        · exact .inl (hp.cons hc)
        · exact .inr ⟨c :: k, t2, rfl, hk.cons hc, ht⟩
theorem wh_out : ∀ v, whS false v = true → Pl v ∨ ∃ a t, v = a ++ 36 :: 123 :: t ∧ Pl a ∧ whS true t = true
  | [], _ => .inl Pl.nil
  | c :: t, h => by
    rw [whS.eq_def] at h
    simp only at h
    by_cases h1 : c = 123 ∨ c = 125
    · rw [if_pos h1] at h; cases h
    · rw [if_neg h1] at h
      by_cases h2 : c = 36
      · rw [if_pos h2] at h
        cases t with
        | nil => cases h
        | cons d t2 =>
          simp only at h
          by_cases h3 : d = 123
          · rw [if_pos h3] at h
            exact .inr ⟨[], t2, by rw [h2, h3]; rfl, Pl.nil, h⟩
          · rw [if_neg h3] at h; cases h
      · rw [if_neg h2] at h
        have hc : c ≠ 36 ∧ c ≠ 123 ∧ c ≠ 125 := ⟨h2, fun e => h1 (.inl e), fun e => h1 (.inr e)⟩
        rcases wh_out t h with hp | ⟨k, t2, rfl, hk, ht⟩
        · exact .inl (hp.cons hc)
        · exact .inr ⟨c :: k, t2, rfl, hk.cons hc, ht⟩
theorem wh_app : ∀ (a t : List UInt8), Pl a → whS false (a ++ t) = whS false t
  | [], t, _ => rfl
  | c :: a, t, h => by
    obtain ⟨h1, h2, h3⟩ := h.head
    rw [List.cons_append, whS.eq_def]
    simp only [h1, h2, h3, false_or, if_false]
    exact wh_app a t h.tail
theorem idx_no : ∀ v, Pl v → idxZ [36, 123] v = none
  | [], _ => rfl
  | c :: t, h => by
    have hp : ([36, 123] : List UInt8).isPrefixOf (c :: t) = false := by
      have := h.head.1
      simp only [List.isPrefixOf, Bool.and_eq_false_iff, beq_eq_false_iff_ne]
      exact .inl fun e => this e.symm
    rw [idxZ_next _ _ _ hp, idx_no t h.tail]; rfl
theorem idx_at : ∀ (a t : List UInt8), Pl a → idxZ [36, 123] (a ++ 36 :: 123 :: t) = some a.length
  | [], t, _ => idxZ_at _ _ (by simp [List.isPrefixOf])
  | c :: a, t, h => by
    have hp : ([36, 123] : List UInt8).isPrefixOf (c :: (a ++ 36 :: 123 :: t)) = false := by
      have := h.head.1
      simp only [List.isPrefixOf, Bool.and_eq_false_iff, beq_eq_false_iff_ne]
      exact .inl fun e => this e.symm
    rw [List.cons_append, idxZ_next _ _ _ hp, idx_at a t h.tail]; rfl
theorem idy_no : ∀ v, Pl v → idxZ [125] v = none
  | [], _ => rfl
  | c :: t, h => by
    have hp : ([125] : List UInt8).isPrefixOf (c :: t) = false := by
      have := h.head.2.2
      simp only [List.isPrefixOf, Bool.and_eq_false_iff, beq_eq_false_iff_ne]
      exact .inl fun e => this e.symm
    rw [idxZ_next _ _ _ hp, idy_no t h.tail]; rfl
theorem idy_at : ∀ (a t : List UInt8), Pl a → idxZ [125] (a ++ 125 :: t) = some a.length
  | [], t, _ => idxZ_at _ _ (by simp [List.isPrefixOf])
  | c :: a, t, h => by
    have hp : ([125] : List UInt8).isPrefixOf (c :: (a ++ 125 :: t)) = false := by
      have := h.head.2.2
      simp only [List.isPrefixOf, Bool.and_eq_false_iff, beq_eq_false_iff_ne]
      exact .inl fun e => this e.symm
    rw [List.cons_append, idxZ_next _ _ _ hp, idy_at a t h.tail]; rfl
/-- How many dollar signs. -/
def dl (l : List UInt8) : Nat := l.count 36
theorem dl_pl {l : List UInt8} (h : Pl l) : dl l = 0 := by
  unfold dl
  rw [List.count_eq_zero]
  exact fun hm => (h 36 hm).1 rfl
theorem dl_app (a b : List UInt8) : dl (a ++ b) = dl a + dl b := by unfold dl; rw [List.count_append]
theorem dl_36 (t : List UInt8) : dl (36 :: t) = dl t + 1 := by unfold dl; rw [List.count_cons]; simp
theorem dl_ne (c : UInt8) (t : List UInt8) (h : c ≠ 36) : dl (c :: t) = dl t := by unfold dl; rw [List.count_cons]; simp [h]
/-- An outcome that is told: an error, or a plain text that is not too long. -/
def Tame (Y : Nat) (R : Res) : Prop := R ≠ none ∧ ∀ r, R = some (some r) → Pl r ∧ r.length ≤ Y
theorem tame_err (Y : Nat) : Tame Y (some none) := ⟨by simp, fun r h => by cases h⟩
theorem exL_end (E : List (List UInt8) → List UInt8 → Res) (kv : KV2) (ks : List (List UInt8)) (X : Nat) (hX : X ≤ 100000000000000000) (hE : ∀ k, k ∉ ks → Tame X (E (ks ++ [k]) (valOf kv k))) :
    ∀ (n : Nat) (s : List UInt8), whS false s = true → dl s < n → s.length + dl s * X ≤ 100000000000000000 → Tame (s.length + dl s * X) (exL E kv ks n s)
  | 0, s, _, h, _ => by omega
  | n + 1, s, hw, hd, hl => by
    have hsl : s.length ≤ 100000000000000000 := Nat.le_trans (Nat.le_add_right _ _) hl
    unfold exL
    rw [if_neg (by omega)]
    rcases wh_out s hw with hp | ⟨a, t, rfl, ha, ht⟩
    · rw [idx_no s hp]
      refine ⟨by simp, fun r h => ?_⟩
      have : s = r := Option.some.inj (Option.some.inj h)
      subst this
      exact ⟨hp, by omega⟩
    · rw [idx_at a t ha]
      simp only
      have hdr : (a ++ 36 :: 123 :: t).drop (a.length + 2) = t := by
        rw [show a ++ 36 :: 123 :: t = (a ++ [36, 123]) ++ t by simp]
        exact List.drop_left' (by simp)
      rw [hdr]
      rcases wh_in t ht with hp | ⟨k, t2, rfl, hk, ht2⟩
      · rw [idy_no t hp]
        exact tame_err _
      · rw [idy_at k t2 hk]
        simp only
        have htk : (k ++ 125 :: t2).take k.length = k := List.take_left' rfl
        rw [htk]
        have hd2 : (a ++ 36 :: 123 :: (k ++ 125 :: t2)).drop (a.length + 2 + k.length + 1) = t2 := by
          rw [show a ++ 36 :: 123 :: (k ++ 125 :: t2) = (a ++ [36, 123] ++ k ++ [125]) ++ t2 by simp]
          exact List.drop_left' (by simp; omega)
        have ht1 : (a ++ 36 :: 123 :: (k ++ 125 :: t2)).take a.length = a := List.take_left' rfl
        rw [hd2, ht1]
        have hdl : dl (a ++ 36 :: 123 :: (k ++ 125 :: t2)) = dl t2 + 1 := by
          rw [dl_app, dl_36, dl_ne _ _ (by decide), dl_app, dl_ne _ _ (by decide), dl_pl ha, dl_pl hk]; omega
        have hln : (a ++ 36 :: 123 :: (k ++ 125 :: t2)).length = a.length + k.length + t2.length + 3 := by simp; omega
        rw [hdl] at hd hl ⊢
        rw [hln] at hl ⊢
        rw [Nat.succ_mul] at hl ⊢
        by_cases hin : k ∈ ks
        · rw [if_pos hin]; exact tame_err _
        · rw [if_neg hin]
          obtain ⟨e1, e2⟩ := hE k hin
          cases hx : E (ks ++ [k]) (valOf kv k) with
          | none => exact absurd hx e1
          | some R =>
            cases R with
            | none => exact tame_err _
            | some nv =>
              obtain ⟨p1, p2⟩ := e2 nv hx
              simp only
              rw [if_neg (by omega)]
              have hw2 : whS false (a ++ nv ++ t2) = true := by rw [wh_app _ _ (ha.app p1)]; exact ht2
              have hdl2 : dl (a ++ nv ++ t2) = dl t2 := by rw [dl_app, dl_pl (ha.app p1), Nat.zero_add]
              have hln2 : (a ++ nv ++ t2).length = a.length + nv.length + t2.length := by simp; omega
              obtain ⟨q1, q2⟩ := exL_end E kv ks X hX hE n (a ++ nv ++ t2) hw2 (by omega) (by rw [hdl2, hln2]; omega)
              refine ⟨q1, fun r hr => ?_⟩
              obtain ⟨z1, z2⟩ := q2 r hr
              rw [hdl2, hln2] at z2
              exact ⟨z1, by omega⟩
theorem two_three : ∀ n : Nat, n * 2 ^ n ≤ 3 ^ n
  | 0 => by decide
  | 1 => by decide
  | 2 => by decide
  | n + 3 => by
    have h := two_three (n + 2)
    have e1 : (n + 3) * 2 ^ (n + 3) = 2 * ((n + 2) * 2 ^ (n + 2)) + 2 * 2 ^ (n + 2) := by rw [Nat.pow_succ 2 (n + 2), ← Nat.mul_assoc, show n + 3 = (n + 2) + 1 from rfl, Nat.add_mul]; omega
    have e2 : 2 * 2 ^ (n + 2) ≤ (n + 2) * 2 ^ (n + 2) := Nat.mul_le_mul_right _ (by omega)
    rw [e1, Nat.pow_succ 3 (n + 2)]
    omega
theorem up_23 {y L m n : Nat} (h : y * 2 ^ m ≤ L * 3 ^ m) (hmn : m ≤ n) : y * 2 ^ n ≤ L * 3 ^ n := by
  obtain ⟨k, rfl⟩ : ∃ k, n = m + k := ⟨n - m, by omega⟩
  rw [Nat.pow_add, Nat.pow_add, ← Nat.mul_assoc, ← Nat.mul_assoc]
  exact Nat.mul_le_mul h (Nat.pow_le_pow_left (by decide) k)
theorem big_23 {y L m : Nat} (h : y * 2 ^ m ≤ L * 3 ^ m) (hm : m ≤ 73) (hL : L ≤ 2000) : y ≤ 100000000000000000 := by
  have h1 := up_23 h hm
  have h2 : L * 3 ^ 73 ≤ 2000 * 3 ^ 73 := Nat.mul_le_mul_right _ hL
  have h3 : (2000 * 3 ^ 73 : Nat) ≤ 100000000000000000 * 2 ^ 73 := by decide
  exact Nat.le_of_mul_le_mul_right (Nat.le_trans h1 (Nat.le_trans h2 h3)) (by decide)
/-- What is summed over the pairs whose keys are not named yet. -/
def sumR (f : List UInt8 → Nat) (ks : List (List UInt8)) (kv : KV2) : Nat := ((kv.filter fun p => decide (p.1 ∉ ks)).map fun p => f p.2).sum
theorem sumR_le (f : List UInt8 → Nat) (ks : List (List UInt8)) (k : List UInt8) : ∀ kv : KV2, sumR f (ks ++ [k]) kv ≤ sumR f ks kv
  | [] => Nat.le_refl _
  | p :: kv => by
    have ih := sumR_le f ks k kv
    unfold sumR at ih ⊢
    rw [List.filter_cons, List.filter_cons]
    by_cases h1 : p.1 ∈ ks
    · have h2 : p.1 ∈ ks ++ [k] := List.mem_append_left _ h1
      simp only [h1, h2, not_true, decide_false, Bool.false_eq_true, if_false]
      exact ih
    · by_cases h2 : p.1 ∈ ks ++ [k]
      · simp only [h1, h2, not_true, not_false_eq_true, decide_false, decide_true, Bool.false_eq_true, if_false, if_true, List.map_cons, List.sum_cons]
        omega
      · simp only [h1, h2, not_false_eq_true, decide_true, if_true, List.map_cons, List.sum_cons]
        omega
theorem sumR_mem (f : List UInt8 → Nat) (ks : List (List UInt8)) (p : List UInt8 × List UInt8) (hk : p.1 ∉ ks) : ∀ kv : KV2, p ∈ kv → sumR f (ks ++ [p.1]) kv + f p.2 ≤ sumR f ks kv
  | [], h => by cases h
  | q :: kv, h => by
    have hl := sumR_le f ks p.1 kv
    have ih := sumR_mem f ks p hk kv
    unfold sumR at ih hl ⊢
    rw [List.filter_cons, List.filter_cons]
    by_cases hq : q = p
    · subst hq
      have h2 : q.1 ∈ ks ++ [q.1] := by simp
      simp only [hk, h2, not_true, not_false_eq_true, decide_false, decide_true, Bool.false_eq_true, if_false, if_true, List.map_cons, List.sum_cons]
      omega
    · have hm : p ∈ kv := by
        rcases List.mem_cons.1 h with e | e
        · exact absurd e.symm hq
        · exact e
      have ih := ih hm
      by_cases h1 : q.1 ∈ ks
      · have h2 : q.1 ∈ ks ++ [p.1] := List.mem_append_left _ h1
        simp only [h1, h2, not_true, decide_false, Bool.false_eq_true, if_false]
        exact ih
      · by_cases h2 : q.1 ∈ ks ++ [p.1]
        · simp only [h1, h2, not_true, not_false_eq_true, decide_false, decide_true, Bool.false_eq_true, if_false, if_true, List.map_cons, List.sum_cons]
          omega
        · simp only [h1, h2, not_false_eq_true, decide_true, if_true, List.map_cons, List.sum_cons]
          omega
/-- An outcome that is told, with what it may have at most. -/
def Told (L m : Nat) (R : Res) : Prop := R ≠ none ∧ ∀ r, R = some (some r) → Pl r ∧ r.length * 2 ^ m ≤ L * 3 ^ m
theorem valOf_cases (kv : KV2) (k : List UInt8) : (k, valOf kv k) ∈ kv ∨ valOf kv k = [] := by
  unfold valOf
  cases h : kv.find? (fun p => p.1 == k) with
  | none => exact .inr rfl
  | some p =>
    have h1 := List.mem_of_find?_eq_some h
    have h2 : p.1 = k := by simpa using List.find?_some h
    subst h2
    exact .inl h1
theorem exD_end (kv : KV2) (N : Nat) (hN : 74 ≤ N) (hw : ∀ p ∈ kv, whS false p.2 = true) :
    ∀ (d : Nat) (ks : List (List UInt8)) (v : List UInt8), ks.length ≤ 65 → 66 ≤ ks.length + d → whS false v = true → sumR List.length ks kv + v.length ≤ 2000 → sumR dl ks kv + dl v ≤ 73 → Told (sumR List.length ks kv + v.length) (sumR dl ks kv + dl v) (exD kv N d ks v)
  | 0, ks, v, h1, h2, _, _, _ => by omega
  | d + 1, ks, v, h1, h2, hv, hL, hD => by
    unfold exD
    by_cases h64 : 64 < ks.length
    · rw [if_pos h64]
      exact ⟨by simp, fun r h => by cases h⟩
    rw [if_neg h64]
    obtain ⟨LR, hLR⟩ : ∃ x, sumR List.length ks kv = x := ⟨_, rfl⟩
    obtain ⟨DR, hDR⟩ : ∃ x, sumR dl ks kv = x := ⟨_, rfl⟩
    have IH : ∀ k, k ∉ ks → Told LR DR (exD kv N d (ks ++ [k]) (valOf kv k)) := by
      intro k hk
      have hwk : whS false (valOf kv k) = true ∧ sumR List.length (ks ++ [k]) kv + (valOf kv k).length ≤ LR ∧ sumR dl (ks ++ [k]) kv + dl (valOf kv k) ≤ DR := by
        rcases valOf_cases kv k with h | h
        · exact ⟨hw _ h, hLR ▸ sumR_mem List.length ks (k, valOf kv k) hk kv h, hDR ▸ sumR_mem dl ks (k, valOf kv k) hk kv h⟩
        · rw [h]
          exact ⟨rfl, hLR ▸ sumR_le List.length ks k kv, hDR ▸ sumR_le dl ks k kv⟩
      obtain ⟨a1, a2, a3⟩ := hwk
      obtain ⟨b1, b2⟩ := exD_end kv N hN hw d (ks ++ [k]) (valOf kv k) (by rw [List.length_append]; simp; omega) (by rw [List.length_append]; simp; omega) a1 (by omega) (by omega)
      refine ⟨b1, fun r hr => ?_⟩
      obtain ⟨c1, c2⟩ := b2 r hr
      exact ⟨c1, up_23 (Nat.le_trans c2 (Nat.mul_le_mul_right _ a2)) a3⟩
    obtain ⟨X, hX⟩ : ∃ X, LR * 3 ^ DR / 2 ^ DR = X := ⟨_, rfl⟩
    have hX2 : X * 2 ^ DR ≤ LR * 3 ^ DR := by rw [← hX]; exact Nat.div_mul_le_self _ _
    have key : (v.length + dl v * X) * 2 ^ (DR + dl v) ≤ (LR + v.length) * 3 ^ (DR + dl v) := by
      have e1 : dl v * X * 2 ^ (DR + dl v) ≤ LR * 3 ^ (DR + dl v) := by
        have e : dl v * X * 2 ^ (DR + dl v) = (dl v * 2 ^ dl v) * (X * 2 ^ DR) := by
          rw [Nat.pow_add]
          simp only [Nat.mul_assoc, Nat.mul_left_comm, Nat.mul_comm]
        rw [e]
        refine Nat.le_trans (Nat.mul_le_mul (two_three (dl v)) hX2) (Nat.le_of_eq ?_)
        rw [Nat.pow_add, Nat.mul_left_comm, Nat.mul_comm (3 ^ dl v)]
      have e2 : v.length * 2 ^ (DR + dl v) ≤ v.length * 3 ^ (DR + dl v) := Nat.mul_le_mul_left _ (Nat.pow_le_pow_left (by decide) _)
      rw [Nat.add_mul, Nat.add_mul]
      omega
    have hXb : X ≤ 100000000000000000 := big_23 hX2 (by omega) (by omega)
    have hB : v.length + dl v * X ≤ 100000000000000000 := big_23 key (by omega) (by omega)
    obtain ⟨q1, q2⟩ := exL_end (exD kv N d) kv ks X hXb (fun k hk => by
      obtain ⟨b1, b2⟩ := IH k hk
      refine ⟨b1, fun r hr => ?_⟩
      obtain ⟨c1, c2⟩ := b2 r hr
      refine ⟨c1, ?_⟩
      rw [← hX]
      exact (Nat.le_div_iff_mul_le (Nat.pow_pos (by decide))).2 c2) N v hv (by omega) hB
    refine ⟨q1, fun r hr => ?_⟩
    obtain ⟨z1, z2⟩ := q2 r hr
    rw [hLR, hDR]
    exact ⟨z1, Nat.le_trans (Nat.mul_le_mul_right _ z2) key⟩

/-- What characters weigh: a dollar sign six, another one. -/
def wR (rs : List Nat) : Nat := (rs.map fun r => if r = 36 then 6 else 1).sum
theorem wR_nil : wR [] = 0 := rfl
theorem wR_cons (r : Nat) (rs : List Nat) : wR (r :: rs) = (if r = 36 then 6 else 1) + wR rs := by unfold wR; rw [List.map_cons, List.sum_cons]
theorem wR_app (a b : List Nat) : wR (a ++ b) = wR a + wR b := by unfold wR; rw [List.map_append, List.sum_append]
theorem wR_one_le (r : Nat) : wR [r] ≤ 6 := by rw [wR_cons, wR_nil]; split <;> omega
theorem wR_ge (r : Nat) (rs : List Nat) : 1 + wR rs ≤ wR (r :: rs) := by rw [wR_cons]; split <;> omega
theorem wR_one (r : Nat) (h : r ≠ 36) : wR [r] = 1 := by rw [wR_cons, wR_nil, if_neg h]
theorem wR_other (r : Nat) (rs : List Nat) (h : r ≠ 36) : wR (r :: rs) = 1 + wR rs := by rw [wR_cons, if_neg h]
theorem wR_snoc (a : List Nat) (r : Nat) : wR (a ++ [r]) = wR a + wR [r] := wR_app a [r]
theorem wR_split (r : Nat) (rs : List Nat) : wR (r :: rs) = wR [r] + wR rs := wR_app [r] rs
theorem dropWs_w (rs : List Nat) : wR (dropWs rs) ≤ wR rs := by
  induction rs with
  | nil => exact Nat.le_refl _
  | cons r rs ih =>
    unfold dropWs at *
    rw [List.dropWhile_cons]
    have := wR_ge r rs
    split
    · omega
    · exact Nat.le_refl _
theorem hex4_w {rs t : List Nat} {c : Nat} (h : hex4 rs = some (c, t)) : 4 + wR t ≤ wR rs := by
  match rs, h with
  | a :: b :: x :: d :: t2, h =>
    rw [hex4] at h
    by_cases hh : (hexR a && hexR b && hexR x && hexR d) = true
    · rw [if_pos hh] at h
      simp only [Option.some.injEq, Prod.mk.injEq] at h
      rw [← h.2]
      have h1 := wR_ge a (b :: x :: d :: t2)
      have h2 := wR_ge b (x :: d :: t2)
      have h3 := wR_ge x (d :: t2)
      have h4 := wR_ge d t2
      omega
    · rw [if_neg hh] at h
      cases h
theorem decR_ne {r : Nat} (h : escR r = true) : decR r ≠ 36 := by
  unfold escR at h
  simp only [Bool.or_eq_true, beq_iff_eq] at h
  unfold decR
  repeat' split
  all_goals omega
theorem escS_w {rs t : List Nat} {c : Nat} (h : escS rs = some (c, t)) : wR [c] + wR t ≤ wR rs + 1 := by
  cases rs with
  | nil => cases h
  | cons r rs =>
    rw [escS] at h
    have hge := wR_ge r rs
    by_cases h1 : escR r = true
    · rw [if_pos h1] at h
      simp only [Option.some.injEq, Prod.mk.injEq] at h
      rw [← h.1, ← h.2, wR_one _ (decR_ne h1)]; omega
    · rw [if_neg h1] at h
      by_cases h2 : r = 117
      · rw [if_pos h2] at h
        have := hex4_w h
        have := wR_one_le c
        omega
      · rw [if_neg h2] at h
        simp only [Option.some.injEq, Prod.mk.injEq] at h
        rw [← h.1, ← h.2, wR_split r rs]; omega
theorem bvS_w (rs : List Nat) : wR (bvS rs) ≤ wR rs := by
  unfold bvS
  refine Nat.le_trans (dropWs_w _) (Nat.le_trans ?_ (dropWs_w rs))
  split
  · simp [wR_nil]
  · rename_i r t h
    rw [h]
    split
    · have := wR_ge r t; omega
    · exact Nat.le_refl _
theorem keyF_w : ∀ (n : Nat) (acc rs k t : List Nat), keyF n acc rs = some (k, t) → wR k + wR t ≤ wR acc + wR rs
  | 0, acc, rs, k, t, h => by simp [keyF] at h; obtain ⟨rfl, rfl⟩ := h; rw [wR_nil]; omega
  | n + 1, acc, [], k, t, h => by simp [keyF] at h; obtain ⟨rfl, rfl⟩ := h; exact Nat.le_refl _
  | n + 1, acc, r :: rs, k, t, h => by
    unfold keyF at h
    split at h
    · rename_i hr
      split at h
      · cases h
      · rename_i c t2 he
        have h1 := escS_w he
        have h2 := keyF_w n _ _ _ _ h
        rw [wR_snoc] at h2
        have h3 := wR_ge r rs
        omega
    · split at h
      · simp at h; rw [← h.2, h.1]; omega
      · have h2 := keyF_w n _ _ _ _ h
        rw [wR_snoc] at h2
        rw [wR_split r rs]; omega
theorem valF_w : ∀ (n : Nat) (acc rs v t : List Nat) (e : Bool), valF n acc rs = some (v, t, e) → wR v + wR t ≤ wR acc + wR rs
  | 0, acc, rs, k, t, e, h => by simp [valF] at h; obtain ⟨rfl, rfl, _⟩ := h; rw [wR_nil]; omega
  | n + 1, acc, [], k, t, e, h => by simp [valF] at h; obtain ⟨rfl, rfl, _⟩ := h; exact Nat.le_refl _
  | n + 1, acc, r :: rs, k, t, e, h => by
    unfold valF at h
    split at h
    · split at h
      · cases h
      · rename_i x t2
        split at h
        · have h2 := valF_w n _ _ _ _ _ h
          have h3 := dropWs_w t2
          have h4 := wR_ge r (x :: t2)
          have h5 := wR_ge x t2
          omega
        · split at h
          · cases h
          · rename_i c t3 he
            have h1 := escS_w he
            have h2 := valF_w n _ _ _ _ _ h
            rw [wR_snoc] at h2
            have h4 := wR_ge r (x :: t2)
            omega
    · split at h
      · simp at h
        have h4 := wR_ge r rs
        rw [← h.1, ← h.2.1]; omega
      · have h2 := valF_w n _ _ _ _ _ h
        rw [wR_snoc] at h2
        rw [wR_split r rs]; omega
theorem cmtF_w : ∀ (rs acc c : List Nat) (o : Option (List Nat)), cmtF acc rs = (c, o) → wR c + (match o with | none => 0 | some t => wR t) ≤ wR acc + wR rs
  | [], acc, c, o, h => by simp [cmtF] at h; rw [← h.1, ← h.2]; simp
  | r :: rs, acc, c, o, h => by
    unfold cmtF at h
    have h4 := wR_ge r rs
    split at h
    · simp at h; rw [← h.1, ← h.2]; simp only; omega
    · have h2 := cmtF_w rs _ _ _ h
      rw [wR_snoc] at h2
      rw [wR_split r rs]; omega
/-- What bytes weigh: a dollar sign twenty-four, another one. -/
def bz (l : List UInt8) : Nat := (l.map fun b => if b = 36 then 24 else 1).sum
theorem bz_cons (b : UInt8) (l : List UInt8) : bz (b :: l) = (if b = 36 then 24 else 1) + bz l := by unfold bz; rw [List.map_cons, List.sum_cons]
theorem bz_app (a b : List UInt8) : bz (a ++ b) = bz a + bz b := by unfold bz; rw [List.map_append, List.sum_append]
theorem bz_len : ∀ l : List UInt8, l.length ≤ bz l
  | [] => Nat.le_refl _
  | b :: l => by
    have := bz_len l
    rw [bz_cons, List.length_cons]
    split <;> omega
theorem bz_dl : ∀ l : List UInt8, 24 * dl l ≤ bz l
  | [] => Nat.le_refl _
  | b :: l => by
    have := bz_dl l
    rw [bz_cons]
    by_cases h : b = 36
    · subst h
      rw [dl_36, if_pos rfl]; omega
    · rw [dl_ne _ _ h, if_neg h]; omega
theorem bz_small : ∀ l : List UInt8, (∀ b ∈ l, b ≠ 36) → bz l = l.length
  | [], _ => rfl
  | b :: l, h => by
    rw [bz_cons, if_neg (h b (by simp)), bz_small l (fun x hx => h x (by simp [hx])), List.length_cons]; omega
theorem ofNat_ne {n : Nat} (h : 128 ≤ n) (h2 : n < 256) : UInt8.ofNat n ≠ 36 := by
  intro e
  have := congrArg UInt8.toNat e
  rw [UInt8.toNat_ofNat'] at this
  have e36 : (36 : UInt8).toNat = 36 := rfl
  rw [e36] at this
  omega
theorem bz_encode (r : Nat) : bz (Utf8.encode (r : Int)).data.toList ≤ 4 * wR [r] := by
  by_cases h36 : r = 36
  · subst h36; decide
  · rw [wR_one r h36]
    have hc : ∃ c, (if Utf8.valid (r : Int) then (r : Int).toNat else Utf8.runeError) = c ∧ c ≠ 36 ∧ c ≤ 1114111 := by
      refine ⟨_, rfl, ?_⟩
      by_cases hv : Utf8.valid (r : Int) = true
      · rw [if_pos hv]
        unfold Utf8.valid at hv
        simp at hv
        omega
      · rw [if_neg hv]
        exact ⟨by decide, by decide⟩
    obtain ⟨c, hc, c1, c2⟩ := hc
    unfold Utf8.encode
    simp only [hc]
    have key : ∀ l : List UInt8, l.length ≤ 4 → (∀ b ∈ l, b ≠ 36) → bz l ≤ 4 * 1 := fun l h1 h2 => by rw [bz_small l h2]; omega
    have e36 : (36 : UInt8).toNat = 36 := rfl
    repeat' split
    · refine key _ (by simp) (fun b hb => ?_)
      simp only [List.mem_cons, List.not_mem_nil, or_false] at hb
      subst hb
      intro e
      have := congrArg UInt8.toNat e
      rw [UInt8.toNat_ofNat', e36] at this
      omega
    all_goals
      refine key _ (by simp) (fun b hb => ?_)
      simp only [List.mem_cons, List.not_mem_nil, or_false] at hb
    · rcases hb with rfl | rfl <;> exact ofNat_ne (by omega) (by omega)
    · rcases hb with rfl | rfl | rfl <;> exact ofNat_ne (by omega) (by omega)
    · rcases hb with rfl | rfl | rfl | rfl <;> exact ofNat_ne (by omega) (by omega)
theorem bz_encA : ∀ c : List Nat, bz (encA c) ≤ 4 * wR c
  | [] => Nat.le_refl _
  | r :: c => by
    have := bz_encA c
    have h2 := bz_encode r
    show bz ((Utf8.encode (r : Int)).data.toList ++ encA c) ≤ _
    rw [bz_app, wR_split r c]; omega
/-- What items weigh. -/
def iz (its : List It) : Nat := (its.map fun i => bz i.2).sum
theorem iz_cons (i : It) (t : List It) : iz (i :: t) = bz i.2 + iz t := by unfold iz; rw [List.map_cons, List.sum_cons]
theorem lexM_w : ∀ (n m : Nat) (rs : List Nat), iz (lexM n m rs) ≤ 4 * wR rs
  | 0, m, rs => by simp [lexM, iz]
  | n + 1, 0, [] => by simp [lexM, iz, bz]
  | n + 1, 0, r :: t => by
    rw [lexM]
    have h1 := lexM_w n 0 t
    have h2 := lexM_w n 1 t
    have h3 := lexM_w n 2 (r :: t)
    have h4 := wR_ge r t
    split
    · omega
    · split
      · omega
      · split <;> omega
  | n + 1, 1, rs => by
    rw [lexM]
    have hd := dropWs_w rs
    split
    · rename_i c he
      have := cmtF_w _ _ _ _ he
      have h2 := bz_encA c
      simp only [wR_nil] at this
      rw [iz_cons]
      show bz (encA c) + 0 ≤ _
      omega
    · rename_i c t he
      have := cmtF_w _ _ _ _ he
      have h1 := lexM_w n 0 t
      have h2 := bz_encA c
      simp only [wR_nil] at this
      rw [iz_cons]
      show bz (encA c) + _ ≤ _
      omega
  | n + 1, 2, rs => by
    rw [lexM]
    split
    · simp [iz, bz]
    · rename_i k t he
      have hk := keyF_w _ _ _ _ _ he
      rw [wR_nil] at hk
      have h1 := lexM_w n 3 t
      have h2 := bz_encA k
      have hx : iz (if t = [] then [((1, []) : It)] else lexM n 3 t) ≤ 4 * wR t := by
        split
        · simp [iz, bz]
        · exact h1
      split
      · rw [List.nil_append]; omega
      · rw [List.cons_append, List.nil_append, iz_cons]
        show bz (encA k) + _ ≤ _
        omega
  | n + 1, 3, rs => by
    rw [lexM]
    have h1 := lexM_w n 4 (bvS rs)
    have h2 := bvS_w rs
    omega
  | n + 1, m + 4, rs => by
    rw [lexM]
    split
    · simp [iz, bz]
    · rename_i v t e he
      have hv := valF_w _ _ _ _ _ _ he
      rw [wR_nil] at hv
      have h1 := lexM_w n 0 t
      have h2 := bz_encA v
      rw [iz_cons]
      show bz (encA v) + _ ≤ _
      cases e
      · simp only [Bool.false_eq_true, if_false]; omega
      · simp only [if_true]
        show bz (encA v) + 0 ≤ _
        omega
/-- What the values of pairs weigh. -/
def vz (kv : KV2) : Nat := (kv.map fun p => bz p.2).sum
theorem vz_cons (p : List UInt8 × List UInt8) (kv : KV2) : vz (p :: kv) = bz p.2 + vz kv := by unfold vz; rw [List.map_cons, List.sum_cons]
theorem vz_same (p : List UInt8 × List UInt8) : ∀ kv : KV2, p.1 ∉ kv.map Prod.fst → kv.map (fun q => if q.1 = p.1 then p else q) = kv
  | [], _ => rfl
  | q :: kv, h => by
    rw [List.map_cons, List.mem_cons, not_or] at h
    rw [List.map_cons, vz_same p kv h.2, if_neg (fun e => h.1 e.symm)]
theorem vz_put (p : List UInt8 × List UInt8) : ∀ kv : KV2, (kv.map Prod.fst).Nodup → vz (kv.map (fun q => if q.1 = p.1 then p else q)) ≤ vz kv + bz p.2
  | [], _ => Nat.zero_le _
  | q :: kv, h => by
    rw [List.map_cons, List.nodup_cons] at h
    rw [List.map_cons, vz_cons, vz_cons]
    by_cases hq : q.1 = p.1
    · rw [if_pos hq, vz_same p kv (hq ▸ h.1)]; omega
    · rw [if_neg hq]
      have := vz_put p kv h.2
      omega
theorem vz_upd (p : List UInt8 × List UInt8) (kv : KV2) (h : (kv.map Prod.fst).Nodup) : vz (updA kv p) ≤ vz kv + bz p.2 := by
  unfold updA
  split
  · exact vz_put p kv h
  · unfold vz; rw [List.map_append, List.sum_append]; simp
theorem parse_w : ∀ (n : Nat) (its : List It) (kv kv' : KV2) (cs cs' : CS2) (co : List (List UInt8)), its.length ≤ n → (kv.map Prod.fst).Nodup → parseM its kv cs co = some (kv', cs') → vz kv' ≤ vz kv + iz its
  | _, [], kv, kv', cs, cs', co, hl, hn, h => by simp [parseM] at h
  | 0, x :: t, kv, kv', cs, cs', co, hl, hn, h => by simp at hl
  | n + 1, x :: t, kv, kv', cs, cs', co, hl, hn, h => by
    simp only [List.length_cons] at hl
    rw [iz_cons]
    unfold parseM at h
    split at h
    · simp at h; rw [← h.1]; omega
    · split at h
      · have := parse_w n t kv kv' cs cs' _ (by omega) hn h
        omega
      · split at h
        · split at h
          · cases h
          · rename_i y t2
            simp only [List.length_cons] at hl
            rw [iz_cons]
            split at h
            · simp at h
              have hu := vz_upd (x.2, []) kv hn
              have h0 : bz [] = 0 := rfl
              rw [← h.1]
              simp only at hu
              omega
            · split at h
              · have hu := vz_upd (x.2, y.2) kv hn
                have := parse_w n t2 _ kv' _ cs' _ (by omega) (updA_nodup hn _) h
                simp only at hu
                omega
              · cases h
        · cases h
theorem sums_le (ks : List (List UInt8)) : ∀ kv : KV2, sumR List.length ks kv ≤ vz kv ∧ 24 * sumR dl ks kv ≤ vz kv
  | [] => ⟨Nat.le_refl _, Nat.le_refl _⟩
  | p :: kv => by
    obtain ⟨h1, h2⟩ := sums_le ks kv
    have h3 := bz_len p.2
    have h4 := bz_dl p.2
    rw [vz_cons]
    unfold sumR at h1 h2 ⊢
    rw [List.filter_cons]
    split
    · rw [List.map_cons, List.sum_cons, List.map_cons, List.sum_cons]; omega
    · omega
theorem sums_nil (f : List UInt8 → Nat) (kv : KV2) : sumR f [] kv = (kv.map fun p => f p.2).sum := by
  unfold sumR
  rw [List.filter_eq_self.2 (fun p _ => by simp)]
/-- EXPANSION ENDS at a text that is light and whose values are whole. -/
theorem exD_all (T : List UInt8) (hT : wR (rns T) ≤ 440) (kv : KV2) (cs : CS2) (h : parseM (lexT T) [] [] [] = some (kv, cs)) (hw : ∀ p ∈ kv, whS false p.2 = true) :
    ∀ p ∈ kv, exD kv 100 70 [p.1] p.2 ≠ none := by
  intro p hp
  have hz : vz kv ≤ 1760 := by
    have h1 := parse_w _ (lexT T) [] kv [] cs [] (Nat.le_refl _) (by simp) h
    have h2 : iz (lexT T) ≤ 4 * wR (rns T) := lexM_w _ _ _
    have h3 : vz [] = 0 := rfl
    omega
  have s1 := sumR_mem List.length [] p (by simp) kv hp
  have s2 := sumR_mem dl [] p (by simp) kv hp
  obtain ⟨t1, t2⟩ := sums_le [] kv
  rw [List.nil_append] at s1 s2
  exact (exD_end kv 100 (by decide) hw 70 [p.1] p.2 (by simp) (by simp) (hw p hp) (by omega) (by omega)).1

theorem encA_one_le (r : Nat) : (encA [r]).length ≤ 24 := Nat.le_trans (bz_len _) (Nat.le_trans (bz_encA [r]) (by have := wR_one_le r; omega))
theorem encA_app (a b : List Nat) : encA (a ++ b) = encA a ++ encA b := by unfold encA; rw [List.flatMap_append]
/-- A text of ISO-8859-1, in UTF-8. -/
def latS (s : List UInt8) : List UInt8 := encA (natL s)
theorem latS_app (a b : List UInt8) : latS (a ++ b) = latS a ++ latS b := by unfold latS; rw [natL_app, encA_app]
theorem own_rune (W : World) (x : Nat) : (W.alloc (.cells #[.int .i32 x] 21)).ownsRow W.heap.size 21 1 (.slice (some ⟨W.heap.size, 0, none⟩) 1 1) 1 (cells [x]) :=
  ⟨rfl, .inr ⟨W.heap.size, 1, #[.int .i32 x], rfl, Nat.le_refl _, al_new _ _ _ rfl, Nat.le_refl _, by unfold maxLen; omega, rfl, rfl⟩⟩
set_option maxHeartbeats 1600000 in
set_option maxRecDepth 100000 in
theorem latin_any (s : List UInt8) (w : World) (hs : s.length ≤ 100000) :
    Calls Tryz.prog 16 #[.string (txt s)] w fun e w' => e = .returned (.string (txt (latS s))) ∧ Below w.heap.size w w' := by
  have hsz := txt_size s
  go_enter Tryz.func16, Tryz.ntmps16
  go_wp2
  go_loopg [3, 4] (s.length + 1) (fun gk v3 v4 wr => ∃ (k : Nat) (S : List UInt8), v4 = .int .i64 k ∧ v3 = .string (txt S) ∧ k ≤ s.length ∧ s.length - k < gk ∧ S.length ≤ 24 * k ∧ Hid (S = latS (s.take k)) ∧ Hid (Below w.heap.size w wr))
  case atStart => exact ⟨0, [], rfl, rfl, by omega, by omega, by simp, rfl, Below.refl _ _⟩
  case round =>
    obtain ⟨k, S, rfl, rfl, hk, hg, hS, HS, HB⟩ := hrel
    have hbs := HB.out.size
    by_cases hlt : k < s.length
    · obtain ⟨gk, rfl⟩ : ∃ m, gk = m + 1 := ⟨gk - 1, by omega⟩
      have hb := List.getElem?_eq_getElem hlt
      generalize s[k] = b at hb
      have hix := run_byte s k b hb
      have hb256 := b.toNat_lt
      have HT : Hid (S ++ encA [b.toNat] = latS (s.take (k + 1))) := by
        show _ = _
        rw [List.take_add_one, hb, HS.out, latS_app]; rfl
      obtain ⟨x, hx⟩ : ∃ x, b.toNat = x := ⟨_, rfl⟩
      rw [hx] at hix hb256 HT
      have hwr : IntKind.i32.wrap (x : Int) = (x : Int) := by simp [IntKind.wrap, IntKind.signed, IntKind.bits]; omega
      have hcv := run_runes_txt [x] (own_rune wr x)
      have HB2 : Hid (Below w.heap.size w (wr.alloc (.cells #[.int .i32 x] 21))) := HB.out.alloc hbs _
      have hel := encA_one_le x
      obtain ⟨E, hE⟩ : ∃ E, encA [x] = E := ⟨_, rfl⟩
      rw [hE] at hcv hel HT
      have HAP : Hid (txt S ++ txt E = txt (S ++ E)) := by show _ = _; rw [txt_append]
      have z1 := txt_size S
      have z2 := txt_size E
      have hl2 : (S ++ E).length ≤ 24 * (k + 1) := by rw [List.length_append]; omega
      have HL2 := Lib.hid hl2
      clear hb hx hE hl2
      go_wp2
      go_roundg gk
      case rel => exact ⟨k + 1, S ++ E, by go_num, congrArg Value.string HAP.out, by omega, by omega, HL2.out, HT.out, HB2.out⟩
      case measure => omega
    · obtain rfl : k = s.length := by omega
      have HF : Hid (S = latS s) := by show _ = _; rw [HS.out, List.take_length]
      clear HS
      go_wp2
      go_ret
      exact ⟨by rw [HF.out]; rfl, HB.out⟩
set_option maxHeartbeats 1600000 in
theorem dollars_any (s : List UInt8) (w : World) (hs : s.length ≤ 100000) :
    Calls Tryz.prog 15 #[.string (txt s)] w fun e w' => e = .returned (.int .i64 (dl s : Nat)) ∧ w' = w := by
  have hsz := txt_size s
  go_enter Tryz.func15, Tryz.ntmps15
  go_wp2
  go_loopg [3, 4] (s.length + 1) (fun gk v3 v4 wr => ∃ (k n : Nat), v4 = .int .i64 k ∧ v3 = .int .i64 n ∧ k ≤ s.length ∧ s.length - k < gk ∧ n ≤ k ∧ Hid (n = dl (s.take k)) ∧ wr = w)
  case atStart => exact ⟨0, 0, rfl, rfl, by omega, by omega, by omega, rfl, rfl⟩
  case round =>
    obtain ⟨k, n, rfl, rfl, hk, hg, hn, HN, hwr⟩ := hrel
    obtain rfl := hwr.symm
    by_cases hlt : k < s.length
    · obtain ⟨gk, rfl⟩ : ∃ m, gk = m + 1 := ⟨gk - 1, by omega⟩
      have hb := List.getElem?_eq_getElem hlt
      generalize s[k] = b at hb
      have hix := run_byte s k b hb
      have HT : Hid (dl (s.take (k + 1)) = n + dl [b]) := by
        show _ = _
        rw [List.take_add_one, hb, dl_app, HN.out]; rfl
      by_cases hd : b = 36
      · subst hd
        have HT2 : Hid (n + 1 = dl (s.take (k + 1))) := by show _ = _; rw [HT.out]; rfl
        have q : (((36 : UInt8).toNat : Int) == 36) = true := rfl
        clear hb HT
        go_wp2
        go_roundg gk
        case rel => exact ⟨k + 1, n + 1, by go_num, by go_num, by omega, by omega, by omega, HT2.out, rfl⟩
        case measure => omega
      · have HT2 : Hid (n = dl (s.take (k + 1))) := by show _ = _; rw [HT.out, dl_ne _ _ hd]; rfl
        have q : ((b.toNat : Int) == 36) = false := by
          rw [beq_eq_false_iff_ne]
          intro e
          exact hd (UInt8.toNat_inj.1 (by show b.toNat = 36; omega))
        clear hb HT hd
        go_wp2
        go_roundg gk
        case rel => exact ⟨k + 1, n, by go_num, rfl, by omega, by omega, by omega, HT2.out, rfl⟩
        case measure => omega
    · obtain rfl : k = s.length := by omega
      have HF : Hid (n = dl s) := by show _ = _; rw [HN.out, List.take_length]
      clear HN
      go_wp2
      go_ret
      exact ⟨by rw [HF.out]; rfl, rfl⟩
theorem begins_bom (s : List UInt8) (w : World) : Calls Tryz.prog 13 #[.string (txt s), .string ⟨#[239, 187, 191]⟩] w fun e w' => (∃ q, e = .returned (.bool q)) ∧ w' = w := by
  have hsz := txt_size s
  by_cases h3 : (3 : Int) ≤ s.length
  · have hsl := slice_to s 3 (by omega) w
    go_enter Tryz.func13, Tryz.ntmps13
    go_wp2
    go_ret
    exact ⟨⟨_, rfl⟩, rfl⟩
  · go_enter Tryz.func13, Tryz.ntmps13
    go_wp2
    go_ret
    exact ⟨.inl rfl, rfl⟩

theorem whF (c : UInt8) (t : List UInt8) : whS false (c :: t) = if c = 123 ∨ c = 125 then false else if c = 36 then (match t with | [] => false | d :: t2 => if d = 123 then whS true t2 else false) else whS false t := by rw [whS.eq_def]; try (cases t <;> rfl)
theorem whT (c : UInt8) (t : List UInt8) : whS true (c :: t) = if c = 125 then whS false t else if c = 36 ∨ c = 123 then false else whS true t := by rw [whS.eq_def]
theorem whS_nil (b : Bool) : whS b [] = true := by cases b <;> rfl
theorem q_eq (b : UInt8) (n : Nat) (hn : n < 256) (h : b = UInt8.ofNat n) : ((b.toNat : Int) == (n : Int)) = true := by
  subst h
  rw [UInt8.toNat_ofNat', Nat.mod_eq_of_lt (by omega)]
  simp
theorem q_ne (b c : UInt8) (h : b ≠ c) : ((b.toNat : Int) == (c.toNat : Int)) = false := by
  rw [beq_eq_false_iff_ne]
  intro e
  exact h (UInt8.toNat_inj.1 (by omega))
set_option maxHeartbeats 3200000 in
set_option maxRecDepth 100000 in
theorem whole_any (s : List UInt8) (w : World) (hs : s.length ≤ 4611686018427387903) :
    Calls Tryz.prog 23 #[.string (txt s)] w fun e w' => e = .returned (.bool (whS false s)) ∧ w' = w := by
  have hsz := txt_size s
  obtain ⟨D, hD⟩ : ∃ D, whS false s = D := ⟨_, rfl⟩
  rw [hD]
  have HD := Lib.hid hD
  clear hD
  go_enter Tryz.func23, Tryz.ntmps23
  go_wp2
  go_loopg [3, 13, 16] (s.length + 2) (fun gk v3 v13 v16 wr => ∃ k : Nat, v3 = .int .i64 k ∧ k ≤ s.length + 1 ∧ s.length + 1 - k < gk ∧ Hid (D = whS false (s.drop k)) ∧ wr = w)
  case atStart => exact ⟨0, rfl, by omega, by omega, HD.out.symm, rfl⟩
  case round =>
    obtain ⟨k, rfl, hk, hg, HR, hwr⟩ := hrel
    obtain rfl := hwr.symm
    by_cases hlt : k < s.length
    · obtain ⟨g1, rfl⟩ : ∃ m, gk = m + 1 := ⟨gk - 1, by omega⟩
      have hb := List.getElem?_eq_getElem hlt
      have hd := List.drop_eq_getElem_cons hlt
      generalize s[k] = b at hb hd
      have hix := run_byte s k b hb
      have HR2 : Hid (D = whS false (b :: s.drop (k + 1))) := by show _ = _; rw [HR.out, hd]
      clear hb hd HR
      by_cases h1 : b = 123
      · subst h1
        have q : (((123 : UInt8).toNat : Int) == 123) = true := rfl
        have HF : Hid (D = false) := by show _ = _; rw [HR2.out, whF]; simp
        clear HR2
        go_wp2
        go_ret
        exact ⟨by rw [HF.out]; rfl, rfl⟩
      by_cases h2 : b = 125
      · subst h2
        have q : (((125 : UInt8).toNat : Int) == 123) = false := rfl
        have q2 : (((125 : UInt8).toNat : Int) == 125) = true := rfl
        have HF : Hid (D = false) := by show _ = _; rw [HR2.out, whF]; simp
        clear HR2
        go_wp2
        go_ret
        exact ⟨by rw [HF.out]; rfl, rfl⟩
      by_cases h3 : b = 36
      · subst h3
        have q : (((36 : UInt8).toNat : Int) == 123) = false := rfl
        have q2 : (((36 : UInt8).toNat : Int) == 125) = false := rfl
        have q3 : (((36 : UInt8).toNat : Int) == 36) = true := rfl
        clear h1 h2
        by_cases hl2 : k + 1 < s.length
        · have hb := List.getElem?_eq_getElem hl2
          have hd := List.drop_eq_getElem_cons hl2
          generalize s[k + 1] = c at hb hd
          have hiy := run_byte s (k + 1) c hb
          rw [show ((k + 1 : Nat) : Int) = (k : Int) + 1 by omega] at hiy
          have q4 : ((k : Int) + 1 == (s.length : Int)) = false := by rw [beq_eq_false_iff_ne]; omega
          have HR3 : Hid (D = if c = 123 then whS true (s.drop (k + 2)) else false) := by show _ = _; rw [HR2.out, hd, whF]; rfl
          clear hb hd HR2
          by_cases hc : c = 123
          · subst hc
            have HR4 : Hid (D = whS true (s.drop (k + 2))) := by show _ = _; rw [HR3.out]; rfl
            have q5 : (((123 : UInt8).toNat : Int) != 123) = false := rfl
            clear HR3
            go_wp2
            go_loopg [3] (s.length + 1) (fun gk v3 wr => ∃ j : Nat, v3 = .int .i64 j ∧ j ≤ s.length ∧ k < j ∧ s.length - j < gk ∧ Hid (D = whS true (s.drop j)) ∧ wr = w)
            case atStart => exact ⟨k + 2, by go_num, by omega, by omega, by omega, HR4.out, rfl⟩
            case round =>
              obtain ⟨j, rfl, hj, hkj, hgj, HJ, hwr⟩ := hrel
              obtain rfl := hwr.symm
              by_cases hjl : j < s.length
              · obtain ⟨g2, rfl⟩ : ∃ m, gk = m + 1 := ⟨gk - 1, by omega⟩
                have hb := List.getElem?_eq_getElem hjl
                have hd := List.drop_eq_getElem_cons hjl
                generalize s[j] = d at hb hd
                have hiz := run_byte s j d hb
                have HJ2 : Hid (D = whS true (d :: s.drop (j + 1))) := by show _ = _; rw [HJ.out, hd]
                clear hb hd HJ
                by_cases e1 : d = 125
                · subst e1
                  have p1 : (((125 : UInt8).toNat : Int) != 125) = false := rfl
                  have HK : Hid (D = whS false (s.drop (j + 1))) := by show _ = _; rw [HJ2.out, whT]; rfl
                  clear HJ2
                  go_wp2
                  go_roundg g1
                  case rel => exact ⟨j + 1, by go_num, by omega, by omega, HK.out, rfl⟩
                  case measure => omega
                by_cases e2 : d = 36
                · subst e2
                  have p1 : (((36 : UInt8).toNat : Int) != 125) = true := rfl
                  have p2 : (((36 : UInt8).toNat : Int) == 36) = true := rfl
                  have HF : Hid (D = false) := by show _ = _; rw [HJ2.out, whT]; simp
                  clear HJ2
                  go_wp2
                  go_ret
                  exact ⟨by rw [HF.out]; rfl, rfl⟩
                by_cases e3 : d = 123
                · subst e3
                  have p1 : (((123 : UInt8).toNat : Int) != 125) = true := rfl
                  have p2 : (((123 : UInt8).toNat : Int) == 36) = false := rfl
                  have p3 : (((123 : UInt8).toNat : Int) == 123) = true := rfl
                  have HF : Hid (D = false) := by show _ = _; rw [HJ2.out, whT]; simp
                  clear HJ2
                  go_wp2
                  go_ret
                  exact ⟨by rw [HF.out]; rfl, rfl⟩
                have p1 : ((d.toNat : Int) != 125) = true := by have := q_ne d 125 e1; simp only [bne, Bool.not_eq_true']; exact this
                have p2 : ((d.toNat : Int) == 36) = false := q_ne d 36 e2
                have p3 : ((d.toNat : Int) == 123) = false := q_ne d 123 e3
                have HJ3 : Hid (D = whS true (s.drop (j + 1))) := by
                  show _ = _
                  rw [HJ2.out, whT]
                  simp only [e1, e2, e3, if_false, or_false]
                clear HJ2 e1 e2 e3
                go_wp2
                go_roundg g2
                case rel => exact ⟨j + 1, by go_num, by omega, by omega, by omega, HJ3.out, rfl⟩
                case measure => omega
              · have HK : Hid (D = whS false (s.drop (j + 1))) := by
                  show _ = _
                  rw [HJ.out, List.drop_eq_nil_of_le (by omega), List.drop_eq_nil_of_le (by omega), whS_nil, whS_nil]
                clear HJ
                go_wp2
                go_roundg g1
                case rel => exact ⟨j + 1, by go_num, by omega, by omega, HK.out, rfl⟩
                case measure => omega
          · have q5 : ((c.toNat : Int) != 123) = true := by have := q_ne c 123 hc; simp only [bne, Bool.not_eq_true']; exact this
            have HF : Hid (D = false) := by show _ = _; rw [HR3.out, if_neg hc]
            clear HR3 hc
            go_wp2
            go_ret
            exact ⟨by rw [HF.out]; rfl, rfl⟩
        · have q4 : ((k : Int) + 1 == (s.length : Int)) = true := by rw [beq_iff_eq]; omega
          have HF : Hid (D = false) := by show _ = _; rw [HR2.out, List.drop_eq_nil_of_le (by omega), whF]; rfl
          clear HR2
          go_wp2
          go_ret
          exact ⟨by rw [HF.out]; rfl, rfl⟩
      have p1 : ((b.toNat : Int) == 123) = false := q_ne b 123 h1
      have p2 : ((b.toNat : Int) == 125) = false := q_ne b 125 h2
      have p3 : ((b.toNat : Int) == 36) = false := q_ne b 36 h3
      have HR3 : Hid (D = whS false (s.drop (k + 1))) := by
        show _ = _
        rw [HR2.out, whF]
        simp only [h1, h2, h3, if_false, or_false]
      clear HR2 h1 h2 h3
      go_wp2
      go_roundg g1
      case rel => exact ⟨k + 1, by go_num, by omega, by omega, HR3.out, rfl⟩
      case measure => omega
    · have HF : Hid (D = true) := by show _ = _; rw [HR.out, List.drop_eq_nil_of_le (by omega), whS_nil]
      clear HR
      go_wp2
      go_ret
      exact ⟨by rw [HF.out]; rfl, rfl⟩

theorem Tryz.infoZz : (Tryz.prog.info? 80).map (fun i => (i.zero, i.size, i.bytes)) = some (some (.agg #[.int .i64 0, .int .i64 0, .string ⟨#[]⟩]), 3, 32) := by kernel_rfl
theorem Tryz.infoIt : (Tryz.prog.info? 66).map (fun i => (i.zero, i.size, i.bytes)) = some (some (.agg #[.int .i64 0, .int .i64 0, .string ⟨#[]⟩]), 3, 32) := by kernel_rfl
theorem liCells_get : ∀ (its : List LI) (j : Nat) (x : LI) (i : Nat), its[j]? = some x → i < 3 → (its.flatMap liCells)[j * 3 + i]? = (liCells x)[i]?
  | [], j, x, i, h, _ => by simp at h
  | q :: its, 0, x, i, h, hi => by
    simp at h
    subst h
    rw [List.flatMap_cons, List.getElem?_append_left (by simp [liCells]; omega)]
    simp
  | q :: its, j + 1, x, i, h, hi => by
    have ih := liCells_get its j x i (by simpa using h) hi
    rw [List.flatMap_cons, List.getElem?_append_right (by simp [liCells]; omega), ← ih]
    congr 1
    simp [liCells]; omega
/-- A row of items. -/
def LiAt (W : World) (v : Value) (its : List LI) : Prop := ∃ ao cap, v = .slice ao its.length cap ∧ its.length ≤ cap ∧ ∀ j i, its[j]? = some i → ∃ g o, ao = some ⟨g, o, none⟩ ∧ W.cell? ⟨g, o + j * 3, none⟩ = some (.int .i64 i.k) ∧ W.cell? ⟨g, o + j * 3 + 1, none⟩ = some (.int .i64 i.p) ∧ W.cell? ⟨g, o + j * 3 + 2, none⟩ = some (.string (txt i.v))
theorem li_own {B : Nat} {e : TypeId} {v : Value} {its : List LI} {W : World} (h : W.ownsRow B e 3 v its.length (its.flatMap liCells)) : LiAt W v its := by
  rcases h.2 with ⟨rfl, h0⟩ | ⟨g, cap, cur, rfl, _, hg, hcp, _⟩
  · have : its = [] := List.eq_nil_of_length_eq_zero h0
    subst this
    exact ⟨none, 0, rfl, Nat.le_refl _, fun j p hj => by simp at hj⟩
  · refine ⟨_, cap, rfl, hcp, fun j x hj => ?_⟩
    have ad : ∀ n, (⟨g, 0, none⟩ : Addr).add n = ⟨g, 0 + n, none⟩ := fun n => by unfold Addr.add; split <;> simp_all
    have hc : ∀ i u, i < 3 → (liCells x)[i]? = some u → W.cell? ⟨g, 0 + (j * 3 + i), none⟩ = some u := fun i u hi hu => by
      rw [← ad]
      exact World.ownsRow.cells h rfl _ _ ((liCells_get its j x i hj hi).trans hu)
    exact ⟨g, 0, rfl, hc 0 _ (by omega) rfl, by rw [Nat.add_assoc]; exact hc 1 _ (by omega) rfl, by rw [Nat.add_assoc]; exact hc 2 _ (by omega) rfl⟩
set_option maxHeartbeats 3200000 in
set_option maxRecDepth 100000 in
theorem zzItems_any (s : List UInt8) (w : World) (hT : Tabs w) (hs : s.length ≤ 50000) :
    Calls Tryz.prog 35 #[.string (txt s)] w fun e w' => ∃ v its, e = .returned v ∧ LiAt w' v its ∧ its.map liOf = lexT s ∧ its.length ≤ 600000 ∧ Below w.heap.size w w' := by
  obtain ⟨i0, hi, hz0, hz1, hz2⟩ := info_parts Tryz.infoZz
  have CL := Lib.hid (lex_any s w hT hs)
  clear hT
  go_enter Tryz.func35, Tryz.ntmps35
  go_wp2_with fail
  refine CL.out.mono ?_
  rintro e w1 ⟨b, rest, wd, acc, its, rfl, hl, h2, h3⟩
  have HB1 := Lib.hid hl.below0
  have H2 := Lib.hid h2
  obtain ⟨q, st, z1, z2, vr, vi, _, _, _, _, _, _, _, _, c7, _, _, hown⟩ := hl.vals
  obtain ⟨ao, cap, rfl, hcap, hx⟩ := li_own hown
  have HX := Lib.hid hx
  have hs1 := HB1.out.size
  clear hl h2 hown hx CL
  go_wp2
  go_loopg [3, 5, 12] (its.length + 1) (fun gk v3 v5 v12 wr => ∃ (j : Nat) (ao2 : Option Addr) (cap2 : Nat), v12 = .int .i64 j ∧ v3 = .slice ao2 j cap2 ∧ j ≤ its.length ∧ its.length - j < gk ∧ Hid (wr.ownsRow w1.heap.size 80 3 (.slice ao2 j cap2) j ((its.take j).flatMap liCells)) ∧ Hid (Below w1.heap.size w1 wr))
  case atStart => exact ⟨0, none, 0, rfl, rfl, by omega, by omega, ⟨rfl, .inl ⟨rfl, rfl⟩⟩, Below.refl _ _⟩
  case round =>
    obtain ⟨j, ao2, cap2, rfl, rfl, hj, hg, HO, HB⟩ := hrel
    have hbs := HB.out.size
    by_cases hlt : j < its.length
    · obtain ⟨gk, rfl⟩ : ∃ m, gk = m + 1 := ⟨gk - 1, by omega⟩
      have hp := List.getElem?_eq_getElem hlt
      have htk := List.take_succ_eq_append_getElem hlt
      generalize its[j] = p at hp htk
      obtain ⟨g, o, rfl, h0, h1, h2⟩ := HX.out j p hp
      have c : ∀ {q : Addr} {u : Value}, w1.cell? q = some u → wr.cell? q = some u := fun {q u} h => (HB.out.cell (World.block_lt_of_cell? w1 _ h)).trans h
      have d0 := c h0
      have d1 := c h1
      have d2 := c h2
      obtain ⟨pk, pp, pv⟩ := p
      simp only at d0 d1 d2
      have HTK : Hid ((its.take (j + 1)).flatMap liCells = (its.take j).flatMap liCells ++ [.int .i64 pk, .int .i64 pp, .string (txt pv)]) := by show _ = _; rw [htk, List.flatMap_append]; rfl
      have HBN := Lib.hid (HB.out.alloc hbs (.cells #[.int .i64 pk, .int .i64 pp, .string (txt pv)] 92))
      have HON := Lib.hid (owns_below HO.out ((Below.refl wr.heap.size wr).alloc (Nat.le_refl _) (.cells #[.int .i64 pk, .int .i64 pp, .string (txt pv)] 92)))
      clear hp htk h0 h1 h2 HO HB c
      go_wp2_with (at_builtin; refine wpList_appk rfl _ _ 77 80 rfl 3 i0 _ 32 Tryz.underlying77 hi hz0 hz1 hz2 rfl (by decide) w1.heap.size _ j _ rfl HON.out #[.int .i64 pk, .int .i64 pp, .string (txt pv)] rfl (by simp; exact ⟨rfl, rfl, rfl⟩) _ rfl (by simp) (by omega) (by omega) (by simp; omega) ?_)
      intro ao3 cap3 w4 hown4 hb4 hkeep4
      have HO4 : Hid (w4.ownsRow w1.heap.size 80 3 (.slice ao3 (j + 1) cap3) (j + 1) ((its.take (j + 1)).flatMap liCells)) := by show World.ownsRow _ _ _ _ _ _ _; rw [HTK.out]; exact hown4
      have HB4 := Lib.hid (HBN.out.trans hb4)
      clear hown4 hb4 hkeep4
      go_wp2
      go_roundg gk
      case rel => exact ⟨j + 1, ao3, cap3, by go_num, rfl, by omega, by omega, HO4.out, HB4.out⟩
      case measure => omega
    · obtain rfl : j = its.length := by omega
      have hown := HO.out
      rw [List.take_length] at hown
      have HLI := Lib.hid (li_own hown)
      have HBF := Lib.hid (HB1.out.trans (HB.out.mono hs1))
      clear hown HO HB
      go_wp2
      go_ret
      exact ⟨_, its, rfl, HLI.out, H2.out, h3, HBF.out⟩
/-- An item of the thin package. -/
def li2 (i : LI) : LI := ⟨i.k, i.p, if i.k = 0 then [] else i.v⟩
theorem li2_of (i : LI) : liOf (li2 i) = liOf i := by
  unfold liOf li2
  simp only
  split <;> rfl
set_option maxHeartbeats 3200000 in
set_option maxRecDepth 100000 in
theorem items_any (s : List UInt8) (w : World) (hT : Tabs w) (hs : s.length ≤ 50000) :
    Calls Tryz.prog 29 #[.string (txt s)] w fun e w' => ∃ (v : Value) (its : List LI) (B : Nat), e = .returned v ∧ w'.ownsRow B 66 3 v its.length (its.flatMap liCells) ∧ its.map liOf = lexT s ∧ its.length ≤ 600000 ∧ Below w.heap.size w w' := by
  obtain ⟨i0, hi, hz0, hz1, hz2⟩ := info_parts Tryz.infoIt
  have CL := Lib.hid (zzItems_any s w hT hs)
  clear hT
  go_enter Tryz.func29, Tryz.ntmps29
  go_wp2_with fail
  refine CL.out.mono ?_
  rintro e w1 ⟨v, its, rfl, hl, h2, h3, hb1⟩
  have HB1 := Lib.hid hb1
  obtain ⟨ao, cap, rfl, hcap, hx⟩ := hl
  have HX := Lib.hid hx
  have H2 : Hid ((its.map li2).map liOf = lexT s) := by
    show _ = _
    rw [← h2, List.map_map]
    exact List.map_congr_left fun i _ => li2_of i
  have hs1 := HB1.out.size
  clear h2 hx CL hb1
  go_wp2
  go_loopg [3, 5, 9] (its.length + 1) (fun gk v3 v5 v9 wr => ∃ (j : Nat) (ao2 : Option Addr) (cap2 : Nat), v9 = .int .i64 j ∧ v3 = .slice ao2 j cap2 ∧ j ≤ its.length ∧ its.length - j < gk ∧ Hid (wr.ownsRow w1.heap.size 66 3 (.slice ao2 j cap2) j (((its.map li2).take j).flatMap liCells)) ∧ Hid (Below w1.heap.size w1 wr))
  case atStart => exact ⟨0, none, 0, rfl, rfl, by omega, by omega, ⟨rfl, .inl ⟨rfl, rfl⟩⟩, Below.refl _ _⟩
  case round =>
    obtain ⟨j, ao2, cap2, rfl, rfl, hj, hg, HO, HB⟩ := hrel
    have hbs := HB.out.size
    by_cases hlt : j < its.length
    · obtain ⟨gk, rfl⟩ : ∃ m, gk = m + 1 := ⟨gk - 1, by omega⟩
      have hp := List.getElem?_eq_getElem hlt
      have htk := List.take_succ_eq_append_getElem hlt
      generalize its[j] = p at hp htk
      obtain ⟨g, o, rfl, h0, h1, h2⟩ := HX.out j p hp
      have c : ∀ {q : Addr} {u : Value}, w1.cell? q = some u → wr.cell? q = some u := fun {q u} h => (HB.out.cell (World.block_lt_of_cell? w1 _ h)).trans h
      have d0 := c h0
      have d1 := c h1
      have d2 := c h2
      obtain ⟨pk, pp, pv⟩ := p
      simp only at d0 d1 d2
      by_cases hk0 : pk = 0
      · subst hk0
        have HTK : Hid (((its.map li2).take (j + 1)).flatMap liCells = ((its.map li2).take j).flatMap liCells ++ [.int .i64 0, .int .i64 pp, .string ⟨#[]⟩]) := by show _ = _; rw [← List.map_take, ← List.map_take, htk, List.map_append, List.flatMap_append]; rfl
        have HBN := Lib.hid (HB.out.alloc hbs (.cells #[.int .i64 0, .int .i64 pp, .string ⟨#[]⟩] 80))
        have HON := Lib.hid (owns_below HO.out ((Below.refl wr.heap.size wr).alloc (Nat.le_refl _) (.cells #[.int .i64 0, .int .i64 pp, .string ⟨#[]⟩] 80)))
        clear hp htk h0 h1 h2 HO HB c
        go_wp2_with (at_builtin; refine wpList_appk rfl _ _ 63 66 rfl 3 i0 _ 32 Tryz.underlying63 hi hz0 hz1 hz2 rfl (by decide) w1.heap.size _ j _ rfl HON.out #[.int .i64 0, .int .i64 pp, .string ⟨#[]⟩] rfl (by simp; exact ⟨rfl, rfl, rfl⟩) _ rfl (by simp) (by omega) (by omega) (by simp; omega) ?_)
        intro ao3 cap3 w4 hown4 hb4 hkeep4
        have HO4 : Hid (w4.ownsRow w1.heap.size 66 3 (.slice ao3 (j + 1) cap3) (j + 1) (((its.map li2).take (j + 1)).flatMap liCells)) := by show World.ownsRow _ _ _ _ _ _ _; rw [HTK.out]; exact hown4
        have HB4 := Lib.hid (HBN.out.trans hb4)
        clear hown4 hb4 hkeep4
        go_wp2
        go_roundg gk
        case rel => exact ⟨j + 1, ao3, cap3, by go_num, rfl, by omega, by omega, HO4.out, HB4.out⟩
        case measure => omega
      · have hq0 : ((pk : Int) == 0) = false := by rw [beq_eq_false_iff_ne]; omega
        have HTK : Hid (((its.map li2).take (j + 1)).flatMap liCells = ((its.map li2).take j).flatMap liCells ++ [.int .i64 pk, .int .i64 pp, .string (txt pv)]) := by
          show _ = _
          rw [← List.map_take, ← List.map_take, htk, List.map_append, List.flatMap_append]
          simp [li2, liCells, hk0]
        have HBN := Lib.hid (HB.out.alloc hbs (.cells #[.int .i64 pk, .int .i64 pp, .string (txt pv)] 80))
        have HON := Lib.hid (owns_below HO.out ((Below.refl wr.heap.size wr).alloc (Nat.le_refl _) (.cells #[.int .i64 pk, .int .i64 pp, .string (txt pv)] 80)))
        clear hp htk h0 h1 h2 HO HB c hk0
        go_wp2_with (at_builtin; refine wpList_appk rfl _ _ 63 66 rfl 3 i0 _ 32 Tryz.underlying63 hi hz0 hz1 hz2 rfl (by decide) w1.heap.size _ j _ rfl HON.out #[.int .i64 pk, .int .i64 pp, .string (txt pv)] rfl (by simp; exact ⟨rfl, rfl, rfl⟩) _ rfl (by simp) (by omega) (by omega) (by simp; omega) ?_)
        intro ao3 cap3 w4 hown4 hb4 hkeep4
        have HO4 : Hid (w4.ownsRow w1.heap.size 66 3 (.slice ao3 (j + 1) cap3) (j + 1) (((its.map li2).take (j + 1)).flatMap liCells)) := by show World.ownsRow _ _ _ _ _ _ _; rw [HTK.out]; exact hown4
        have HB4 := Lib.hid (HBN.out.trans hb4)
        clear hown4 hb4 hkeep4
        go_wp2
        go_roundg gk
        case rel => exact ⟨j + 1, ao3, cap3, by go_num, rfl, by omega, by omega, HO4.out, HB4.out⟩
        case measure => omega
    · obtain rfl : j = its.length := by omega
      have hown : wr.ownsRow w1.heap.size 66 3 (.slice ao2 its.length cap2) (its.map li2).length ((its.map li2).flatMap liCells) := by
        have := HO.out
        rw [List.take_of_length_le (by rw [List.length_map]; exact Nat.le_refl _)] at this
        rw [List.length_map]
        exact this
      have HLI := Lib.hid hown
      have HBF := Lib.hid (HB1.out.trans (HB.out.mono hs1))
      clear hown HO HB
      go_wp2
      go_ret
      exact ⟨_, its.map li2, _, rfl, HLI.out, H2.out, by rw [List.length_map]; exact h3, HBF.out⟩

theorem latS_le : ∀ l : List UInt8, (latS l).length ≤ 24 * l.length
  | [] => Nat.le_refl _
  | b :: l => by
    have h := latS_le l
    have h2 := encA_one_le b.toNat
    rw [show b :: l = [b] ++ l from rfl, latS_app, List.length_append, List.length_append, List.length_singleton]
    have e : latS [b] = encA [b.toNat] := rfl
    rw [e]; omega
theorem set_nextN (N : Nat) (ds : List Nat) (r : Nat) (h : ds.length < N) : (cells ds ++ List.replicate (N - ds.length) (Value.int .i32 0)).set ds.length (.int .i32 r) = cells (ds ++ [r]) ++ List.replicate (N - (ds ++ [r]).length) (Value.int .i32 0) := by
  rw [List.set_append_right _ _ (by rw [cells_length]; exact Nat.le_refl _), cells_length, Nat.sub_self, cells_append, List.length_append, List.length_singleton, show N - ds.length = (N - (ds.length + 1)) + 1 by omega, List.replicate_succ, List.set_cons_zero, List.append_assoc]
  rfl
set_option maxHeartbeats 3200000 in
set_option maxRecDepth 100000 in
theorem convert_iso (v : Value) (l : List UInt8) (w : World) (h : Bs w v l) (hl : l.length ≤ 50000) :
    Calls Tryz.prog 32 #[v, .int .u64 2] w fun e w' => e = .returned (.string (txt (latS l))) ∧ Below w.heap.size w w' := by
  obtain ⟨i0, hi, hz0, hz1, hz2⟩ := info_parts Tryz.info21
  obtain ⟨w2, hmk, hown0, hgr⟩ := run_make_full (P := Tryz.prog) w w.heap.size 53 21 i0 (.int .i32 0) 1 Tryz.underlying53 hi hz0 hz1 .i64 .i64 l.length (by rw [hz2]; omega) (by unfold maxLen; omega) (Nat.le_refl _)
  rw [Nat.mul_one, show (Value.int .i32 0).cells = #[Value.int .i32 0] from rfl, toList_madeCells_one] at hown0
  have hB2 : Below w.heap.size w w2 := (Below.refl _ w).grown hgr (Nat.le_refl _) (fun k hk => by cases hk)
  have HO2 : Hid (w2.ownsRow w.heap.size 21 1 (.slice (some ⟨w.heap.size, 0, none⟩) l.length l.length) l.length (cells (natL (l.take 0)) ++ List.replicate (l.length - (natL (l.take 0)).length) (.int .i32 0))) := by
    show World.ownsRow _ _ _ _ _ _ _
    exact hown0
  have HB2 := Lib.hid hB2
  have hmk2 : (Instr.makeSlice 53 (.int .i64 l.length) (.int .i64 l.length)).run Tryz.prog w = .ok (.slice (some ⟨w.heap.size, 0, none⟩) l.length l.length) w2 := hmk
  obtain ⟨g, o, cap, rfl, hc, hx⟩ := h
  have HX := Lib.hid hx
  clear hmk hown0 hgr hB2 hx
  obtain ⟨D, hD⟩ : ∃ D, w.heap.size = D := ⟨_, rfl⟩
  have HDS := Lib.hid hD
  rw [hD] at hmk2 HO2 HB2 ⊢
  clear hD
  go_enter Tryz.func32, Tryz.ntmps32
  go_wp2
  go_loopg [6, 7, 22] (l.length + 1) (fun gk v6 v7 v22 wr => ∃ k : Nat, v22 = .int .i64 k ∧ k ≤ l.length ∧ l.length - k < gk ∧ Hid (wr.ownsRow D 21 1 (.slice (some ⟨D, 0, none⟩) l.length l.length) l.length (cells (natL (l.take k)) ++ List.replicate (l.length - (natL (l.take k)).length) (.int .i32 0))) ∧ Hid (Below D w wr))
  case atStart => exact ⟨0, rfl, by omega, by omega, HO2.out, HB2.out⟩
  case round =>
    obtain ⟨k, rfl, hk, hg, HO, HB⟩ := hrel
    by_cases hlt : k < l.length
    · obtain ⟨gk, rfl⟩ : ∃ m, gk = m + 1 := ⟨gk - 1, by omega⟩
      have c0 := HX.out k hlt
      have ht : natL (l.take (k + 1)) = natL (l.take k) ++ [l[k].toNat] := by rw [List.take_succ_eq_append_getElem hlt, natL_app]; rfl
      have hb256 := l[k].toNat_lt
      obtain ⟨x, hx⟩ : ∃ x, l[k].toNat = x := ⟨_, rfl⟩
      rw [hx] at c0 ht hb256
      have c1 : wr.cell? ⟨g, o + k, none⟩ = some (.int .u8 x) := (HB.out.cell (p := ⟨g, o + k, none⟩) (by rw [← HDS.out]; exact World.block_lt_of_cell? w _ c0)).trans c0
      have hwr : IntKind.i32.wrap (x : Int) = (x : Int) := by simp [IntKind.wrap, IntKind.signed, IntKind.bits]; omega
      have hnl : (natL (l.take k)).length = k := by unfold natL; rw [List.length_map, List.length_take]; omega
      obtain ⟨cur, hh, _⟩ := row_heap HO.out
      have fD : wr.frozen? ⟨D, k, none⟩ = false := by simp [World.frozen?, hh]
      have cD : ∃ u, wr.cell? ⟨D, k, none⟩ = some u := by
        have hx2 : (cells (natL (l.take k)) ++ List.replicate (l.length - (natL (l.take k)).length) (Value.int .i32 0))[k]? = some (.int .i32 0) := by
          rw [List.getElem?_append_right (by rw [cells_length, hnl]; exact Nat.le_refl _), cells_length, hnl, Nat.sub_self, List.getElem?_replicate]
          simp; omega
        refine ⟨.int .i32 0, ?_⟩
        have := World.ownsRow.cells (w := wr) HO.out rfl k _ hx2
        have ea : (⟨D, 0, none⟩ : Addr).add k = ⟨D, k, none⟩ := by unfold Addr.add; split <;> simp_all
        rw [ea] at this
        exact this
      obtain ⟨u0, cD⟩ := cD
      have hst := (World.ownsRow.stored HO.out k (.int .i32 x)).1
      have hsn := set_nextN l.length (natL (l.take k)) x (by omega)
      rw [hnl] at hsn
      rw [hnl, hsn, ← ht] at hst
      have HO3 := Lib.hid hst
      have HB3 := Lib.hid (HB.out.setCell (p := ⟨D, k, none⟩) (Nat.le_refl _) (.int .i32 x))
      clear hst hsn hh ht hnl hx c0 HO HB
      go_wp2
      go_roundg gk
      case rel => exact ⟨k + 1, by go_num, by omega, by omega, HO3.out, HB3.out⟩
      case measure => omega
    · obtain rfl : k = l.length := by omega
      have ho := HO.out
      have hnl : (natL l).length = l.length := by unfold natL; rw [List.length_map]
      rw [List.take_length, hnl, Nat.sub_self, List.replicate_zero, List.append_nil] at ho
      have hcv : (convert 53 9 (.slice (some ⟨D, 0, none⟩) l.length l.length)).run Tryz.prog wr = .ok (.string (txt (latS l))) wr := run_runes_txt (natL l) ho
      clear ho HO hnl
      go_wp2
      go_ret
      exact ⟨rfl, HB.out⟩
set_option maxHeartbeats 1600000 in
set_option maxRecDepth 100000 in
theorem loadB_isoP (L : Nat) (v : Value) (l : List UInt8) (w : World) (h : Bs w v l) (hT : Tabs w) (hl : l.length ≤ 2000) (hL1 : w.cell? ⟨L, 1, none⟩ = some (.bool true)) :
    Calls Tryz.prog 24 #[.pointer (some ⟨L, 0, none⟩), v, .int .u64 2] w (LoadN w (latS l)) := by
  have hLl := World.block_lt_of_cell? w _ hL1
  simp only at hLl
  have HT := Lib.hid hT
  have hbl := latS_le l
  have hb256 : True := trivial
  have CV := Lib.hid (convert_iso v l w h (by omega))
  obtain ⟨g, o, cap, rfl, hc, hx⟩ := h
  clear hx hc hT hb256
  go_enter Tryz.func24, Tryz.ntmps24
  go_wp2_with fail
  refine CV.out.mono ?_
  rintro e w1 ⟨rfl, hw1⟩
  have HB1 := Lib.hid hw1
  have hL11 : w1.cell? ⟨L, 1, none⟩ = some (.bool true) := (HB1.out.cell (p := ⟨L, 1, none⟩) hLl).trans hL1
  have hs1 := HB1.out.size
  clear hw1 CV
  go_wp2_with fail
  refine (parse_any (latS l) w1 (HT.out.below HB1.out) (by omega)).mono ?_
  rintro e w3 ⟨hb3, ⟨hn, p, a, rfl⟩ | ⟨kv, cs, b, m, cb, hn, rfl, hp⟩⟩
  · have HB3 := Lib.hid (HB1.out.trans (hb3.mono hs1))
    have HN := Lib.hid hn
    have hne := neq_err a w3
    clear hb3 hn
    go_wp2
    go_ret2
    exact ⟨HB3.out, .inl ⟨HN.out, _, _, rfl⟩⟩
  · have HB3 := Lib.hid (HB1.out.trans (hb3.mono hs1))
    have hL13 : w3.cell? ⟨L, 1, none⟩ = some (.bool true) := (hb3.cell (p := ⟨L, 1, none⟩) (by show L < _; omega)).trans hL11
    have HN := Lib.hid hn
    have HP := Lib.hid ((hp.setD (d2 := true)).mono (B2 := w.heap.size) hs1)
    have hpo := hp
    obtain ⟨q1, _, _, _, vk, vc, ho, _⟩ := hp
    have HB4 := Lib.hid (HB3.out.setCell (p := ⟨b, 2, none⟩) (by show _ ≤ b; omega) (.bool true))
    have d2 : w3.cell? ⟨b, 2, none⟩ = some (.bool false) := by simp [World.cell?, ho]
    have f2 : w3.frozen? ⟨b, 2, none⟩ = false := by simp [World.frozen?, ho]
    clear hb3 hn ho hpo
    go_wp2
    go_ret2
    exact ⟨HB4.out, .inr ⟨kv, cs, b, m, cb, HN.out, rfl, HP.out⟩⟩
set_option maxHeartbeats 800000 in
theorem loadBytes_isoP (L : Nat) (v : Value) (l : List UInt8) (w : World) (h : Bs w v l) (hT : Tabs w) (hl : l.length ≤ 2000) (hL0 : w.cell? ⟨L, 0, none⟩ = some (.int .u64 2)) (hL1 : w.cell? ⟨L, 1, none⟩ = some (.bool true)) :
    Calls Tryz.prog 20 #[.pointer (some ⟨L, 0, none⟩), v] w (LoadN w (latS l)) := by
  have C := Lib.hid (loadB_isoP L v l w h hT hl hL1)
  obtain ⟨g, o, cap, rfl, hc, hx⟩ := h
  clear hx hc hT hL1
  go_enter Tryz.func20, Tryz.ntmps20
  go_wp2_with fail
  refine C.out.mono ?_
  rintro e w1 ⟨hb, ⟨hn, t, a, rfl⟩ | ⟨kv, cs, b, m, cb, hn, rfl, hp⟩⟩
  · have HN := Lib.hid hn
    have HB := Lib.hid hb
    clear hn hb
    go_wp2
    go_ret2
    exact ⟨HB.out, .inl ⟨HN.out, _, _, rfl⟩⟩
  · have HN := Lib.hid hn
    have HB := Lib.hid hb
    have HP := Lib.hid hp
    clear hn hb hp
    go_wp2
    go_ret2
    exact ⟨HB.out, .inr ⟨kv, cs, b, m, cb, HN.out, rfl, HP.out⟩⟩
set_option maxHeartbeats 1600000 in
set_option maxRecDepth 100000 in
theorem loadP_isoP (s : List UInt8) (w : World) (hT : Tabs w) (hs : s.length ≤ 2000) :
    Calls Tryz.prog 10 #[.string (txt s), .int .i64 2, .bool true] w (ResP w (plainR (latS s))) := by
  have hbom := latS_le s
  have hz := txt_size s
  obtain ⟨W1, hW1⟩ : ∃ W1, w.alloc (.cells #[.int .u64 2, .bool true, .bool false] 45) = W1 := ⟨_, rfl⟩
  have hL : W1.heap[w.heap.size]? = some (.cells #[.int .u64 2, .bool true, .bool false] 45 (0, 0)) := by rw [← hW1]; exact al_new _ _ _ rfl
  have hcv := Go.Lib.run_convert_string_bytes (P := Tryz.prog) W1 9 51 5 (txt s) Tryz.underlying9 Tryz.underlying51 Tryz.underlying5
  have hB1 : Below w.heap.size w W1 := by rw [← hW1]; exact (Below.refl _ _).alloc (Nat.le_refl _) _
  have hB2 : Below W1.heap.size W1 (bytesWorld W1 5 (txt s)) := below_bytes W1 5 (txt s)
  have hbs := bs_bytes W1 s
  obtain ⟨W2, hW2⟩ : ∃ W2, bytesWorld W1 5 (txt s) = W2 := ⟨_, rfl⟩
  rw [hW2] at hcv hB2 hbs
  rw [hz] at hcv
  have hL2 : W2.heap[w.heap.size]? = some (.cells #[.int .u64 2, .bool true, .bool false] 45 (0, 0)) := (hB2.block _ (lt_of_some hL)).trans hL
  have HB2 : Hid (Below w.heap.size w W2) := hB1.trans (hB2.mono hB1.size)
  have C := Lib.hid (loadBytes_isoP w.heap.size _ s W2 hbs (hT.below HB2.out) hs (by simp [World.cell?, hL2]) (by simp [World.cell?, hL2]))
  have hs2 := HB2.out.size
  obtain ⟨GC, hGC⟩ : ∃ n, grownCap W1 s.length 0 5 = n := ⟨_, rfl⟩
  rw [hGC] at hcv C
  obtain ⟨G, hG⟩ : ∃ n, W1.heap.size = n := ⟨_, rfl⟩
  rw [hG] at hcv C
  rw [← hW1] at hcv
  clear hW1 hW2 hL hL2 hB1 hB2 hbs hGC hG hT hz
  go_enter Tryz.func10, Tryz.ntmps10
  go_wp2_with fail
  refine C.out.mono ?_
  rintro e w1 ⟨hb, ⟨hn, t, a, rfl⟩ | ⟨kv, cs, b, m, cb, hn, rfl, hp⟩⟩
  · have HN : Hid (plainR (latS s) = none) := by show _ = _; unfold plainR; rw [hn]; rfl
    have HB := Lib.hid (HB2.out.trans (hb.mono hs2))
    have hne := neq_iface t a w1
    clear hn hb C
    go_wp2
    go_ret2
    exact ⟨HB.out, .inl ⟨HN.out, rfl⟩⟩
  · have HN : Hid (plainR (latS s) = some (kv.map (mkP Prod.snd cs))) := by show _ = _; unfold plainR; rw [hn]; rfl
    have HB := Lib.hid (HB2.out.trans (hb.mono hs2))
    obtain ⟨h1, h2⟩ := parse_small (by omega) hn
    have CP := Lib.hid (props_any W2.heap.size b m cb true kv cs Prod.snd w1 hp h1 h2 (fun W hW p hp2 => (get_plain W2.heap.size b m cb kv cs p.1 p.2 W (hp.nk (NK.below hW)) hp2).mono (by rintro e w' ⟨rfl, rfl⟩; exact ⟨rfl, Below.refl _ _⟩)))
    have hs3 := HB.out.size
    clear hn hb hp h1 h2 C
    go_wp2_with fail
    refine CP.out.mono ?_
    rintro e w2 ⟨v, rfl, hpx, hb2⟩
    have HPX := Lib.hid hpx
    have HB3 := Lib.hid (HB.out.trans (hb2.mono hs3))
    clear hpx hb2 CP
    go_wp2
    go_ret2
    exact ⟨HB3.out, .inr ⟨_, v, HN.out, rfl, HPX.out⟩⟩
set_option maxHeartbeats 3200000 in
set_option maxRecDepth 100000 in
theorem loadB_isoF (N : Nat) (hN : N ≤ 1000000) (d : Nat) (L : Nat) (v : Value) (l : List UInt8) (w : World) (h : Bs w v l) (hT : Tabs w) (hl : l.length ≤ 2000) (hL1 : w.cell? ⟨L, 1, none⟩ = some (.bool false)) (hE : EndsT N d (latS l)) :
    Calls Tryz.prog 24 #[.pointer (some ⟨L, 0, none⟩), v, .int .u64 2] w (LoadE N d w (latS l)) := by
  have hLl := World.block_lt_of_cell? w _ hL1
  simp only at hLl
  have HT := Lib.hid hT
  have HE := Lib.hid hE
  have hbl := latS_le l
  have hb256 : True := trivial
  have CV := Lib.hid (convert_iso v l w h (by omega))
  obtain ⟨g, o, cap, rfl, hc, hx⟩ := h
  clear hx hc hT hE hb256
  go_enter Tryz.func24, Tryz.ntmps24
  go_wp2_with fail
  refine CV.out.mono ?_
  rintro e w1 ⟨rfl, hw1⟩
  have HB1 := Lib.hid hw1
  have hL11 : w1.cell? ⟨L, 1, none⟩ = some (.bool false) := (HB1.out.cell (p := ⟨L, 1, none⟩) hLl).trans hL1
  have hs1 := HB1.out.size
  clear hw1 CV
  go_wp2_with fail
  refine (parse_any (latS l) w1 (HT.out.below HB1.out) (by omega)).mono ?_
  rintro e w3 ⟨hb3, ⟨hn, p, a, rfl⟩ | ⟨kv, cs, b, m, cb, hn, rfl, hp⟩⟩
  · have HB3 := Lib.hid (HB1.out.trans (hb3.mono hs1))
    have HN : Hid (fullR N d (latS l) = none) := by show _ = _; unfold fullR; rw [hn]; rfl
    have hne := neq_err a w3
    clear hb3 hn
    go_wp2
    go_ret2
    exact ⟨HB3.out, .inl ⟨HN.out, _, _, _, rfl⟩⟩
  · have HB3 := Lib.hid (HB1.out.trans (hb3.mono hs1))
    have hL13 : w3.cell? ⟨L, 1, none⟩ = some (.bool false) := (hb3.cell (p := ⟨L, 1, none⟩) (by show L < _; omega)).trans hL11
    have HN := Lib.hid hn
    have HP := Lib.hid ((hp.setD (d2 := false)).mono (B2 := w.heap.size) hs1)
    obtain ⟨q1, _, _, _, vk, vc, ho, _⟩ := hp
    have HB4 := Lib.hid (HB3.out.setCell (p := ⟨b, 2, none⟩) (by show _ ≤ b; omega) (.bool false))
    have d2 : w3.cell? ⟨b, 2, none⟩ = some (.bool false) := by simp [World.cell?, ho]
    have f2 : w3.frozen? ⟨b, 2, none⟩ = false := by simp [World.frozen?, ho]
    have CK := Lib.hid (check_any w.heap.size b m cb kv cs N hN d (w3.setCell ⟨b, 2, none⟩ (.bool false)) HP.out (HE.out kv cs hn))
    have hs4 := HB4.out.size
    clear hb3 hn ho
    go_wp2_with fail
    refine CK.out.mono ?_
    rintro e w5 ⟨hb5, ⟨rfl, hall⟩ | ⟨a, rfl, hbad⟩⟩
    · have HB5 := Lib.hid (HB4.out.trans (hb5.mono hs4))
      have HP5 := Lib.hid (HP.out.nk (NK.below hb5))
      have HALL := Lib.hid hall
      clear hb5 hall CK
      go_wp2
      go_ret2
      exact ⟨HB5.out, .inr ⟨kv, cs, b, m, cb, HN.out, HALL.out, rfl, HP5.out⟩⟩
    · have HB5 := Lib.hid (HB4.out.trans (hb5.mono hs4))
      have HF : Hid (fullR N d (latS l) = none) := by
        show _ = _
        unfold fullR
        rw [HN.out]
        show (if kv.all _ = true then _ else none) = none
        rw [if_neg]
        intro hh
        obtain ⟨p, hp, hx⟩ := hbad
        have := List.all_eq_true.1 hh p hp
        rw [hx] at this
        cases this
      clear hb5 hbad CK
      go_wp2
      go_ret2
      exact ⟨HB5.out, .inl ⟨HF.out, _, _, _, rfl⟩⟩
set_option maxHeartbeats 800000 in
theorem loadBytes_isoF (N : Nat) (hN : N ≤ 1000000) (d : Nat) (L : Nat) (v : Value) (l : List UInt8) (w : World) (h : Bs w v l) (hT : Tabs w) (hl : l.length ≤ 2000) (hL0 : w.cell? ⟨L, 0, none⟩ = some (.int .u64 2)) (hL1 : w.cell? ⟨L, 1, none⟩ = some (.bool false)) (hE : EndsT N d (latS l)) :
    Calls Tryz.prog 20 #[.pointer (some ⟨L, 0, none⟩), v] w (LoadE N d w (latS l)) := by
  have C := Lib.hid (loadB_isoF N hN d L v l w h hT hl hL1 hE)
  obtain ⟨g, o, cap, rfl, hc, hx⟩ := h
  clear hx hc hT hL1 hE
  go_enter Tryz.func20, Tryz.ntmps20
  go_wp2_with fail
  refine C.out.mono ?_
  rintro e w1 ⟨hb, ⟨hn, p, t, a, rfl⟩ | ⟨kv, cs, b, m, cb, hn, hx, rfl, hp⟩⟩
  · have HN := Lib.hid hn
    have HB := Lib.hid hb
    clear hn hb
    go_wp2
    go_ret2
    exact ⟨HB.out, .inl ⟨HN.out, _, _, _, rfl⟩⟩
  · have HN := Lib.hid hn
    have HX := Lib.hid hx
    have HB := Lib.hid hb
    have HP := Lib.hid hp
    clear hn hb hp hx
    go_wp2
    go_ret2
    exact ⟨HB.out, .inr ⟨kv, cs, b, m, cb, HN.out, HX.out, rfl, HP.out⟩⟩
set_option maxHeartbeats 1600000 in
set_option maxRecDepth 100000 in
theorem loadP_isoF (N : Nat) (hN : N ≤ 1000000) (d : Nat) (s : List UInt8) (w : World) (hT : Tabs w) (hs : s.length ≤ 2000) (hE : EndsT N d (latS s)) :
    Calls Tryz.prog 10 #[.string (txt s), .int .i64 2, .bool false] w (ResP w (fullR N d (latS s))) := by
  have hbom := latS_le s
  have hz := txt_size s
  obtain ⟨W1, hW1⟩ : ∃ W1, w.alloc (.cells #[.int .u64 2, .bool false, .bool false] 45) = W1 := ⟨_, rfl⟩
  have hL : W1.heap[w.heap.size]? = some (.cells #[.int .u64 2, .bool false, .bool false] 45 (0, 0)) := by rw [← hW1]; exact al_new _ _ _ rfl
  have hcv := Go.Lib.run_convert_string_bytes (P := Tryz.prog) W1 9 51 5 (txt s) Tryz.underlying9 Tryz.underlying51 Tryz.underlying5
  have hB1 : Below w.heap.size w W1 := by rw [← hW1]; exact (Below.refl _ _).alloc (Nat.le_refl _) _
  have hB2 : Below W1.heap.size W1 (bytesWorld W1 5 (txt s)) := below_bytes W1 5 (txt s)
  have hbs := bs_bytes W1 s
  obtain ⟨W2, hW2⟩ : ∃ W2, bytesWorld W1 5 (txt s) = W2 := ⟨_, rfl⟩
  rw [hW2] at hcv hB2 hbs
  rw [hz] at hcv
  have hL2 : W2.heap[w.heap.size]? = some (.cells #[.int .u64 2, .bool false, .bool false] 45 (0, 0)) := (hB2.block _ (lt_of_some hL)).trans hL
  have HB2 : Hid (Below w.heap.size w W2) := hB1.trans (hB2.mono hB1.size)
  have C := Lib.hid (loadBytes_isoF N hN d w.heap.size _ s W2 hbs (hT.below HB2.out) hs (by simp [World.cell?, hL2]) (by simp [World.cell?, hL2]) hE)
  have hs2 := HB2.out.size
  obtain ⟨GC, hGC⟩ : ∃ n, grownCap W1 s.length 0 5 = n := ⟨_, rfl⟩
  rw [hGC] at hcv C
  obtain ⟨G, hG⟩ : ∃ n, W1.heap.size = n := ⟨_, rfl⟩
  rw [hG] at hcv C
  rw [← hW1] at hcv
  clear hW1 hW2 hL hL2 hB1 hB2 hbs hGC hG hT hz hE
  go_enter Tryz.func10, Tryz.ntmps10
  go_wp2_with fail
  refine C.out.mono ?_
  rintro e w1 ⟨hb, ⟨hn, p, t, a, rfl⟩ | ⟨kv, cs, b, m, cb, hn, hx, rfl, hp⟩⟩
  · have HN := Lib.hid hn
    have HB := Lib.hid (HB2.out.trans (hb.mono hs2))
    have hne := neq_iface t a w1
    clear hn hb C
    go_wp2
    go_ret2
    exact ⟨HB.out, .inl ⟨HN.out, rfl⟩⟩
  · have HN : Hid (fullR N d (latS s) = some (kv.map (mkP (fun p => exV (exD kv N d [p.1] p.2)) cs))) := by
      show _ = _
      unfold fullR
      rw [hn]
      show (if kv.all _ = true then _ else none) = _
      rw [if_pos]
      rw [List.all_eq_true]
      intro p hp
      obtain ⟨r, hr⟩ := hx p hp
      rw [hr]; rfl
    have HB := Lib.hid (HB2.out.trans (hb.mono hs2))
    obtain ⟨h1, h2⟩ := parse_small (by omega) hn
    have CP := Lib.hid (props_any W2.heap.size b m cb false kv cs (fun p => exV (exD kv N d [p.1] p.2)) w1 hp h1 h2 (fun W hW p hp2 => by
      obtain ⟨r, hr⟩ := hx p hp2
      have := get_full W2.heap.size b m cb kv cs N hN d p.1 p.2 r W (hp.nk (NK.below hW)) hp2 hr
      rw [hr]
      exact this))
    have hs3 := HB.out.size
    clear hn hb hp h1 h2 C hx
    go_wp2_with fail
    refine CP.out.mono ?_
    rintro e w2 ⟨v, rfl, hpx, hb2⟩
    have HPX := Lib.hid hpx
    have HB3 := Lib.hid (HB.out.trans (hb2.mono hs3))
    clear hpx hb2 CP
    go_wp2
    go_ret2
    exact ⟨HB3.out, .inr ⟨_, v, HN.out, rfl, HPX.out⟩⟩

theorem wR_le : ∀ rs : List Nat, wR rs ≤ 6 * rs.length
  | [] => Nat.le_refl _
  | r :: rs => by
    have h := wR_le rs
    have h2 := wR_one_le r
    rw [wR_split r rs, List.length_cons]; omega
theorem iz_mem : ∀ {its : List It} {i : It}, i ∈ its → bz i.2 ≤ iz its
  | [], i, h => by cases h
  | x :: t, i, h => by
    rw [iz_cons]
    rcases List.mem_cons.1 h with rfl | h
    · omega
    · have := iz_mem h; omega
theorem vz_mem : ∀ {kv : KV2} {p : List UInt8 × List UInt8}, p ∈ kv → bz p.2 ≤ vz kv
  | [], p, h => by cases h
  | x :: t, p, h => by
    rw [vz_cons]
    rcases List.mem_cons.1 h with rfl | h
    · omega
    · have := vz_mem h; omega
theorem lex_big {X : List UInt8} (hX : X.length ≤ 50000) : iz (lexT X) ≤ 2000000 := by
  have h1 : iz (lexT X) ≤ 4 * wR (rns X) := lexM_w _ _ _
  have h2 := wR_le (rns X)
  have h3 := rns_leL X
  omega
theorem item_big {X : List UInt8} {its : List LI} (hX : X.length ≤ 50000) (h : its.map liOf = lexT X) : ∀ i ∈ its, i.k = 3 → i.v.length ≤ 2000000 := by
  intro i hi hk
  have h1 : liOf i ∈ lexT X := by rw [← h]; exact List.mem_map.2 ⟨i, hi, rfl⟩
  have h2 := iz_mem h1
  have h3 := lex_big hX
  have h4 := bz_len (liOf i).2
  have h5 : (liOf i).2 = i.v := by unfold liOf; rw [if_neg (by omega)]
  rw [h5] at h2 h4
  omega
theorem weak_res {w : World} {T : List UInt8} {e : Ending} {w' : World} (h : ResP w (plainR T) e w') : ∃ ps v q, e = .returned (.tuple #[v, .bool q]) ∧ Px w' v ps ∧ (∀ qs, plainR T = some qs → qs = ps) ∧ (ps = [] ∨ plainR T = some ps) ∧ Below w.heap.size w w' := by
  obtain ⟨hb, ⟨hn, rfl⟩ | ⟨ps, v, hs, rfl, hp⟩⟩ := h
  · exact ⟨[], _, _, rfl, ⟨none, 0, rfl, Nat.le_refl _, fun j p hj => by simp at hj⟩, fun qs hq => (by rw [hn] at hq; cases hq), .inl rfl, hb⟩
  · exact ⟨ps, v, _, rfl, hp, fun qs hq => (by rw [hs] at hq; exact (Option.some.inj hq).symm), .inr hs, hb⟩
theorem plain_len {T : List UInt8} {ps : List PropA} (hT : T.length ≤ 50000) (h : plainR T = some ps) : ps.length ≤ 1000000 ∧ ∀ x ∈ ps.map PropA.r, x.length ≤ 2000000 := by
  unfold plainR at h
  cases hp : parseM (lexT T) [] [] [] with
  | none => rw [hp] at h; cases h
  | some r =>
    obtain ⟨kv, cs⟩ := r
    rw [hp] at h
    have h2 : kv.map (mkP Prod.snd cs) = ps := Option.some.inj h
    subst h2
    refine ⟨by rw [List.length_map]; exact (parse_small hT hp).1, fun x hx => ?_⟩
    rw [List.map_map] at hx
    obtain ⟨q, hq, rfl⟩ := List.mem_map.1 hx
    have h1 := vz_mem hq
    have h3 := parse_w _ _ [] kv [] cs [] (Nat.le_refl _) (by simp) hp
    have h4 := lex_big hT
    have h5 := bz_len q.2
    have h6 : vz [] = 0 := rfl
    show q.2.length ≤ _
    omega
theorem weak_len {T : List UInt8} {ps : List PropA} (hT : T.length ≤ 50000) (h : ps = [] ∨ plainR T = some ps) : ps.length ≤ 1000000 := by
  rcases h with rfl | h
  · simp
  · exact (plain_len hT h).1
theorem weak_big {T : List UInt8} {ps : List PropA} (hT : T.length ≤ 50000) (h : ps = [] ∨ plainR T = some ps) : ∀ x ∈ ps.map PropA.r, x.length ≤ 2000000 := by
  rcases h with rfl | h
  · intro x hx; simp at hx
  · exact (plain_len hT h).2
theorem val_in {T : List UInt8} {ps : List PropA} {vs : List (List UInt8)} (h : ∀ qs, plainR T = some qs → qs = ps) (h2 : ∀ x ∈ ps.map PropA.r, x ∈ vs) : ∀ qs, plainR T = some qs → ∀ p ∈ qs, p.r ∈ vs := by
  intro qs hq p hp
  have := h qs hq
  subst this
  exact h2 _ (List.mem_map.2 ⟨p, hp, rfl⟩)
/-- What values hands on. -/
def ValP (w : World) (T : List UInt8) (e : Ending) (w' : World) : Prop := ∃ v vs, e = .returned v ∧ Tx w' v vs ∧ (∀ qs, plainR T = some qs → ∀ p ∈ qs, p.r ∈ vs) ∧ (∀ x ∈ vs, x.length ≤ 2000000) ∧ vs.length ≤ 2000000 ∧ Below w.heap.size w w'
set_option maxHeartbeats 3200000 in
set_option maxRecDepth 100000 in
theorem values_iso (s : List UInt8) (w : World) (hT : Tabs w) (hs : s.length ≤ 2000) :
    Calls Tryz.prog 22 #[.string (txt s), .int .i64 2] w (ValP w (latS s)) := by
  obtain ⟨i0, hi, hz0, hz1, hz2⟩ := info_parts Tryz.infoStr
  have CP := Lib.hid (((loadP_isoP s w hT hs).mono (fun _ _ h => weak_res (T := latS s) (w := w) h)))
  have HT := Lib.hid hT
  clear hT
  go_enter Tryz.func22, Tryz.ntmps22
  go_wp2_with fail
  refine CP.out.mono ?_
  rintro e w1 ⟨ps, v, q, rfl, hpx, hps, hpl, hb1⟩
  have HB1 := Lib.hid hb1
  have HPS := Lib.hid hps
  have HPL := Lib.hid hpl
  obtain ⟨ao, cap, rfl, hcap, hx⟩ := hpx
  have HX := Lib.hid hx
  have hs1 := HB1.out.size
  have hpn : ps.length ≤ 1000000 := weak_len (by have := latS_le s; omega) hpl
  clear hb1 hps hpl hx CP
  go_wp2
  go_loopg [5, 9, 20] (ps.length + 1) (fun gk v5 v9 v20 wr => ∃ (j : Nat) (ao2 : Option Addr) (cap2 : Nat), v20 = .int .i64 j ∧ v5 = .slice ao2 j cap2 ∧ j ≤ ps.length ∧ ps.length - j < gk ∧ Hid (wr.ownsRow w1.heap.size 9 1 (.slice ao2 j cap2) j (strsV ((ps.map PropA.r).take j))) ∧ Hid (Below w1.heap.size w1 wr))
  case atStart => exact ⟨0, none, 0, rfl, rfl, by omega, by omega, ⟨rfl, .inl ⟨rfl, rfl⟩⟩, Below.refl _ _⟩
  case round =>
    obtain ⟨j, ao2, cap2, rfl, rfl, hj, hg, HO, HB⟩ := hrel
    have hbs := HB.out.size
    by_cases hlt : j < ps.length
    · obtain ⟨gk, rfl⟩ : ∃ m, gk = m + 1 := ⟨gk - 1, by omega⟩
      have hp := List.getElem?_eq_getElem hlt
      have htk : (ps.map PropA.r).take (j + 1) = (ps.map PropA.r).take j ++ [(ps[j]).r] := by rw [← List.map_take, ← List.map_take, List.take_succ_eq_append_getElem hlt, List.map_append]; rfl
      generalize ps[j] = p at hp htk
      obtain ⟨g, o, cv, rfl, h0, h1, h2, h3, h4⟩ := HX.out j p hp
      have c : ∀ {q : Addr} {u : Value}, w1.cell? q = some u → wr.cell? q = some u := fun {q u} h => (HB.out.cell (World.block_lt_of_cell? w1 _ h)).trans h
      have d0 := c h0
      have d1 := c h1
      have d2 := c h2
      have d3 := c h3
      obtain ⟨cao, ccap, rfl, _, _⟩ := h4
      obtain ⟨pk, pr, px, pc⟩ := p
      simp only at d0 d1 d2 d3 htk
      have HTK : Hid (strsV ((ps.map PropA.r).take (j + 1)) = strsV ((ps.map PropA.r).take j) ++ [.string (txt pr)]) := by show _ = _; rw [htk]; unfold strsV; rw [List.map_append]; rfl
      have HBN := Lib.hid (HB.out.alloc hbs (.cells #[.string (txt pk), .string (txt pr), .string (txt px), .slice cao pc.length ccap] 33))
      have HON := Lib.hid (owns_below HO.out ((Below.refl wr.heap.size wr).alloc (Nat.le_refl _) (.cells #[.string (txt pk), .string (txt pr), .string (txt px), .slice cao pc.length ccap] 33)))
      clear hp htk h0 h1 h2 h3 HO HB c
      go_wp2_with (at_builtin; refine wpList_app1m rfl _ _ 22 9 rfl i0 (.string ⟨#[]⟩) 16 Tryz.underlying22 hi hz0 hz1 hz2 rfl w1.heap.size _ j _ rfl HON.out (.string (txt pr)) rfl _ rfl (by simp) (by omega) (by omega) (by simp; omega) ?_)
      intro ao3 cap3 w4 hown4 hb4 _ _ _
      have HO4 : Hid (w4.ownsRow w1.heap.size 9 1 (.slice ao3 (j + 1) cap3) (j + 1) (strsV ((ps.map PropA.r).take (j + 1)))) := by show World.ownsRow _ _ _ _ _ _ _; rw [HTK.out]; exact hown4
      have HB4 := Lib.hid (HBN.out.trans hb4)
      clear hown4 hb4
      go_wp2
      go_roundg gk
      case rel => exact ⟨j + 1, ao3, cap3, by go_num, rfl, by omega, by omega, HO4.out, HB4.out⟩
      case measure => omega
    · obtain rfl : j = ps.length := by omega
      have HVS : Hid (wr.ownsRow w1.heap.size 9 1 (.slice ao2 ps.length cap2) ps.length (strsV (ps.map PropA.r))) := by
        have := HO.out
        rw [List.take_of_length_le (by rw [List.length_map]; exact Nat.le_refl _)] at this
        exact this
      have HBA := Lib.hid (HB1.out.trans (HB.out.mono hs1))
      have HTR := Lib.hid (HT.out.below HBA.out)
      have HLR : Hid (∀ x ∈ ps.map PropA.r, x.length ≤ 2000000) := weak_big (by have := latS_le s; omega) HPL.out
      clear HO HX HPL HTR
      go_wp2_with fail
      refine (latin_any s wr (by omega)).mono ?_
      rintro e w2 ⟨rfl, hb2⟩
      have HB2 := Lib.hid (HBA.out.trans (hb2.mono HBA.out.size))
      have HVS2 := Lib.hid (owns_cut HVS.out hb2)
      have HBV := Lib.hid (HB.out.trans (hb2.mono HB.out.size))
      clear hb2
      go_wp2_with fail
      refine (items_any (latS s) w2 (HT.out.below HB2.out) (by have := latS_le s; omega)).mono ?_
      rintro e w3 ⟨vi, its, B, rfl, hown, hi2, hi3, hb3⟩
      have HB3 := Lib.hid (HB2.out.trans (hb3.mono HB2.out.size))
      have HVS3 := Lib.hid (owns_cut HVS2.out hb3)
      have HBW := Lib.hid (HBV.out.trans (hb3.mono HBV.out.size))
      have HIB : Hid (∀ i ∈ its, i.k = 3 → i.v.length ≤ 2000000) := item_big (X := (latS s)) (by have := latS_le s; omega) hi2
      obtain ⟨iao, icap, rfl⟩ := owns_slice hown
      have HI3 := Lib.hid hown
      clear hown hi2 hb3
      have hw3 := HB3.out.size
      have HB31 : Hid (Below w1.heap.size w1 w3) := HBW.out
      go_wp2
      go_loopg [5, 11, 37] (its.length + 1) (fun gk v5 v11 v37 wr => ∃ (j : Nat) (ao2 : Option Addr) (cap2 : Nat) (vs : List (List UInt8)), v37 = .int .i64 j ∧ v5 = .slice ao2 vs.length cap2 ∧ j ≤ its.length ∧ its.length - j < gk ∧ vs.length ≤ ps.length + j ∧ Hid (∀ x ∈ ps.map PropA.r, x ∈ vs) ∧ Hid (∀ x ∈ vs, x.length ≤ 2000000) ∧ Hid (wr.ownsRow w1.heap.size 9 1 (.slice ao2 vs.length cap2) vs.length (strsV vs)) ∧ Hid (wr.ownsRow B 66 3 (.slice iao its.length icap) its.length (its.flatMap liCells)) ∧ Hid (Below w1.heap.size w1 wr))
      case atStart => exact ⟨0, ao2, cap2, ps.map PropA.r, rfl, by rw [List.length_map], by omega, by omega, by rw [List.length_map]; omega, fun x h => h, HLR.out, by rw [List.length_map]; exact HVS3.out, HI3.out, HB31.out⟩
      case round =>
        obtain ⟨j, ao4, cap4, vs, rfl, rfl, hj, hg, hvl, HIN, HLV, HO, HI, HB⟩ := hrel
        have hbs := HB.out.size
        by_cases hlt : j < its.length
        · obtain ⟨gk, rfl⟩ : ∃ m, gk = m + 1 := ⟨gk - 1, by omega⟩
          have hp := List.getElem?_eq_getElem hlt
          generalize its[j] = p at hp
          obtain ⟨iao2, icap2, hie, hicap, hix⟩ := li_own HI.out
          obtain ⟨g, o, hgo, d0, d1, d2⟩ := hix j p hp
          obtain ⟨rfl, rfl⟩ : iao = iao2 ∧ icap = icap2 := by cases hie; exact ⟨rfl, rfl⟩
          subst hgo
          have HPB := Lib.hid (HIB.out p (List.mem_of_getElem? hp))
          obtain ⟨pk, pp, pv⟩ := p
          simp only at d0 d1 d2
          have hba := (Below.refl wr.heap.size wr).alloc (Nat.le_refl _) (.cells #[.int .i64 pk, .int .i64 pp, .string (txt pv)] 66)
          have HBN := Lib.hid (HB.out.alloc hbs (.cells #[.int .i64 pk, .int .i64 pp, .string (txt pv)] 66))
          have HON := Lib.hid (owns_below HO.out hba)
          have HIN3 := Lib.hid (owns_below HI.out hba)
          clear hp HO HB HI hba hie hix
          by_cases hk3 : pk = 3
          · subst hk3
            have hvb := HPB.out rfl
            simp only at hvb
            have HIN2 : Hid (∀ x ∈ ps.map PropA.r, x ∈ vs ++ [pv]) := fun x h => List.mem_append_left _ (HIN.out x h)
            have HLV2 : Hid (∀ x ∈ vs ++ [pv], x.length ≤ 2000000) := fun x h => by
              rcases List.mem_append.1 h with h | h
              · exact HLV.out x h
              · rw [List.mem_singleton.1 h]; exact hvb
            have HTK : Hid (strsV (vs ++ [pv]) = strsV vs ++ [.string (txt pv)]) := by show _ = _; unfold strsV; rw [List.map_append]; rfl
            clear hvb HPB
            go_wp2_with (at_builtin; refine wpList_app1m rfl _ _ 22 9 rfl i0 (.string ⟨#[]⟩) 16 Tryz.underlying22 hi hz0 hz1 hz2 rfl w1.heap.size _ vs.length _ rfl HON.out (.string (txt pv)) rfl _ rfl (by simp) (by omega) (by omega) (by simp; omega) ?_)
            intro ao3 cap3 w5 hown4 hb4 hk4 _ _
            have HO4 : Hid (w5.ownsRow w1.heap.size 9 1 (.slice ao3 (vs.length + 1) cap3) (vs.length + 1) (strsV (vs ++ [pv]))) := by show World.ownsRow _ _ _ _ _ _ _; rw [HTK.out]; exact hown4
            have HI4 := Lib.hid (owns_keep HIN3.out fun g hg => hk4 g (by simpa using (HIN3.out.lt g hg).2) (own_apart HON.out HIN3.out (by decide) g hg))
            have HB4 := Lib.hid (HBN.out.trans hb4)
            clear hown4 hb4 hk4
            go_wp2
            go_roundg gk
            case rel => exact ⟨j + 1, ao3, cap3, vs ++ [pv], by go_num, by rw [List.length_append]; rfl, by omega, by omega, by rw [List.length_append]; simp; omega, HIN2.out, HLV2.out, by have := HO4.out; rw [List.length_append]; exact this, HI4.out, HB4.out⟩
            case measure => omega
          · have hq3 : ((pk : Int) == 3) = false := by rw [beq_eq_false_iff_ne]; omega
            clear hk3
            go_wp2
            go_roundg gk
            case rel => exact ⟨j + 1, ao4, cap4, vs, by go_num, rfl, by omega, by omega, by omega, HIN.out, HLV.out, HON.out, HIN3.out, HBN.out⟩
            case measure => omega
        · obtain rfl : j = its.length := by omega
          have HTX := Lib.hid (Tx.of_own HO.out)
          have HBF := Lib.hid (HB1.out.trans (HB.out.mono hs1))
          clear HO HB HI
          go_wp2
          go_ret
          exact ⟨_, vs, rfl, HTX.out, val_in HPS.out HIN.out, HLV.out, by omega, HBF.out⟩
set_option maxHeartbeats 3200000 in
set_option maxRecDepth 100000 in
theorem values_utf (s : List UInt8) (w : World) (hT : Tabs w) (hs : s.length ≤ 50000) :
    Calls Tryz.prog 22 #[.string (txt s), .int .i64 1] w (ValP w (bomS s)) := by
  obtain ⟨i0, hi, hz0, hz1, hz2⟩ := info_parts Tryz.infoStr
  have CP := Lib.hid (((loadP_plain s 1 w (.inr rfl) hT hs).mono (fun _ _ h => weak_res (T := bomS s) (w := w) h)))
  have HT := Lib.hid hT
  clear hT
  go_enter Tryz.func22, Tryz.ntmps22
  go_wp2_with fail
  refine CP.out.mono ?_
  rintro e w1 ⟨ps, v, q, rfl, hpx, hps, hpl, hb1⟩
  have HB1 := Lib.hid hb1
  have HPS := Lib.hid hps
  have HPL := Lib.hid hpl
  obtain ⟨ao, cap, rfl, hcap, hx⟩ := hpx
  have HX := Lib.hid hx
  have hs1 := HB1.out.size
  have hpn : ps.length ≤ 1000000 := weak_len (by have := bomS_le s; omega) hpl
  clear hb1 hps hpl hx CP
  go_wp2
  go_loopg [5, 9, 20] (ps.length + 1) (fun gk v5 v9 v20 wr => ∃ (j : Nat) (ao2 : Option Addr) (cap2 : Nat), v20 = .int .i64 j ∧ v5 = .slice ao2 j cap2 ∧ j ≤ ps.length ∧ ps.length - j < gk ∧ Hid (wr.ownsRow w1.heap.size 9 1 (.slice ao2 j cap2) j (strsV ((ps.map PropA.r).take j))) ∧ Hid (Below w1.heap.size w1 wr))
  case atStart => exact ⟨0, none, 0, rfl, rfl, by omega, by omega, ⟨rfl, .inl ⟨rfl, rfl⟩⟩, Below.refl _ _⟩
  case round =>
    obtain ⟨j, ao2, cap2, rfl, rfl, hj, hg, HO, HB⟩ := hrel
    have hbs := HB.out.size
    by_cases hlt : j < ps.length
    · obtain ⟨gk, rfl⟩ : ∃ m, gk = m + 1 := ⟨gk - 1, by omega⟩
      have hp := List.getElem?_eq_getElem hlt
      have htk : (ps.map PropA.r).take (j + 1) = (ps.map PropA.r).take j ++ [(ps[j]).r] := by rw [← List.map_take, ← List.map_take, List.take_succ_eq_append_getElem hlt, List.map_append]; rfl
      generalize ps[j] = p at hp htk
      obtain ⟨g, o, cv, rfl, h0, h1, h2, h3, h4⟩ := HX.out j p hp
      have c : ∀ {q : Addr} {u : Value}, w1.cell? q = some u → wr.cell? q = some u := fun {q u} h => (HB.out.cell (World.block_lt_of_cell? w1 _ h)).trans h
      have d0 := c h0
      have d1 := c h1
      have d2 := c h2
      have d3 := c h3
      obtain ⟨cao, ccap, rfl, _, _⟩ := h4
      obtain ⟨pk, pr, px, pc⟩ := p
      simp only at d0 d1 d2 d3 htk
      have HTK : Hid (strsV ((ps.map PropA.r).take (j + 1)) = strsV ((ps.map PropA.r).take j) ++ [.string (txt pr)]) := by show _ = _; rw [htk]; unfold strsV; rw [List.map_append]; rfl
      have HBN := Lib.hid (HB.out.alloc hbs (.cells #[.string (txt pk), .string (txt pr), .string (txt px), .slice cao pc.length ccap] 33))
      have HON := Lib.hid (owns_below HO.out ((Below.refl wr.heap.size wr).alloc (Nat.le_refl _) (.cells #[.string (txt pk), .string (txt pr), .string (txt px), .slice cao pc.length ccap] 33)))
      clear hp htk h0 h1 h2 h3 HO HB c
      go_wp2_with (at_builtin; refine wpList_app1m rfl _ _ 22 9 rfl i0 (.string ⟨#[]⟩) 16 Tryz.underlying22 hi hz0 hz1 hz2 rfl w1.heap.size _ j _ rfl HON.out (.string (txt pr)) rfl _ rfl (by simp) (by omega) (by omega) (by simp; omega) ?_)
      intro ao3 cap3 w4 hown4 hb4 _ _ _
      have HO4 : Hid (w4.ownsRow w1.heap.size 9 1 (.slice ao3 (j + 1) cap3) (j + 1) (strsV ((ps.map PropA.r).take (j + 1)))) := by show World.ownsRow _ _ _ _ _ _ _; rw [HTK.out]; exact hown4
      have HB4 := Lib.hid (HBN.out.trans hb4)
      clear hown4 hb4
      go_wp2
      go_roundg gk
      case rel => exact ⟨j + 1, ao3, cap3, by go_num, rfl, by omega, by omega, HO4.out, HB4.out⟩
      case measure => omega
    · obtain rfl : j = ps.length := by omega
      have HVS : Hid (wr.ownsRow w1.heap.size 9 1 (.slice ao2 ps.length cap2) ps.length (strsV (ps.map PropA.r))) := by
        have := HO.out
        rw [List.take_of_length_le (by rw [List.length_map]; exact Nat.le_refl _)] at this
        exact this
      have HBA := Lib.hid (HB1.out.trans (HB.out.mono hs1))
      have HTR := Lib.hid (HT.out.below HBA.out)
      have HLR : Hid (∀ x ∈ ps.map PropA.r, x.length ≤ 2000000) := weak_big (by have := bomS_le s; omega) HPL.out
      clear HO HX HPL HTR
      have HB2 := Lib.hid HBA.out
      have HVS2 := Lib.hid HVS.out
      have HBV := Lib.hid HB.out
      go_wp2_with fail
      refine (items_any s wr (HT.out.below HB2.out) (by omega)).mono ?_
      rintro e w3 ⟨vi, its, B, rfl, hown, hi2, hi3, hb3⟩
      have HB3 := Lib.hid (HB2.out.trans (hb3.mono HB2.out.size))
      have HVS3 := Lib.hid (owns_cut HVS2.out hb3)
      have HBW := Lib.hid (HBV.out.trans (hb3.mono HBV.out.size))
      have HIB : Hid (∀ i ∈ its, i.k = 3 → i.v.length ≤ 2000000) := item_big (X := s) (by omega) hi2
      obtain ⟨iao, icap, rfl⟩ := owns_slice hown
      have HI3 := Lib.hid hown
      clear hown hi2 hb3
      have hw3 := HB3.out.size
      have HB31 : Hid (Below w1.heap.size w1 w3) := HBW.out
      go_wp2
      go_loopg [5, 11, 37] (its.length + 1) (fun gk v5 v11 v37 wr => ∃ (j : Nat) (ao2 : Option Addr) (cap2 : Nat) (vs : List (List UInt8)), v37 = .int .i64 j ∧ v5 = .slice ao2 vs.length cap2 ∧ j ≤ its.length ∧ its.length - j < gk ∧ vs.length ≤ ps.length + j ∧ Hid (∀ x ∈ ps.map PropA.r, x ∈ vs) ∧ Hid (∀ x ∈ vs, x.length ≤ 2000000) ∧ Hid (wr.ownsRow w1.heap.size 9 1 (.slice ao2 vs.length cap2) vs.length (strsV vs)) ∧ Hid (wr.ownsRow B 66 3 (.slice iao its.length icap) its.length (its.flatMap liCells)) ∧ Hid (Below w1.heap.size w1 wr))
      case atStart => exact ⟨0, ao2, cap2, ps.map PropA.r, rfl, by rw [List.length_map], by omega, by omega, by rw [List.length_map]; omega, fun x h => h, HLR.out, by rw [List.length_map]; exact HVS3.out, HI3.out, HB31.out⟩
      case round =>
        obtain ⟨j, ao4, cap4, vs, rfl, rfl, hj, hg, hvl, HIN, HLV, HO, HI, HB⟩ := hrel
        have hbs := HB.out.size
        by_cases hlt : j < its.length
        · obtain ⟨gk, rfl⟩ : ∃ m, gk = m + 1 := ⟨gk - 1, by omega⟩
          have hp := List.getElem?_eq_getElem hlt
          generalize its[j] = p at hp
          obtain ⟨iao2, icap2, hie, hicap, hix⟩ := li_own HI.out
          obtain ⟨g, o, hgo, d0, d1, d2⟩ := hix j p hp
          obtain ⟨rfl, rfl⟩ : iao = iao2 ∧ icap = icap2 := by cases hie; exact ⟨rfl, rfl⟩
          subst hgo
          have HPB := Lib.hid (HIB.out p (List.mem_of_getElem? hp))
          obtain ⟨pk, pp, pv⟩ := p
          simp only at d0 d1 d2
          have hba := (Below.refl wr.heap.size wr).alloc (Nat.le_refl _) (.cells #[.int .i64 pk, .int .i64 pp, .string (txt pv)] 66)
          have HBN := Lib.hid (HB.out.alloc hbs (.cells #[.int .i64 pk, .int .i64 pp, .string (txt pv)] 66))
          have HON := Lib.hid (owns_below HO.out hba)
          have HIN3 := Lib.hid (owns_below HI.out hba)
          clear hp HO HB HI hba hie hix
          by_cases hk3 : pk = 3
          · subst hk3
            have hvb := HPB.out rfl
            simp only at hvb
            have HIN2 : Hid (∀ x ∈ ps.map PropA.r, x ∈ vs ++ [pv]) := fun x h => List.mem_append_left _ (HIN.out x h)
            have HLV2 : Hid (∀ x ∈ vs ++ [pv], x.length ≤ 2000000) := fun x h => by
              rcases List.mem_append.1 h with h | h
              · exact HLV.out x h
              · rw [List.mem_singleton.1 h]; exact hvb
            have HTK : Hid (strsV (vs ++ [pv]) = strsV vs ++ [.string (txt pv)]) := by show _ = _; unfold strsV; rw [List.map_append]; rfl
            clear hvb HPB
            go_wp2_with (at_builtin; refine wpList_app1m rfl _ _ 22 9 rfl i0 (.string ⟨#[]⟩) 16 Tryz.underlying22 hi hz0 hz1 hz2 rfl w1.heap.size _ vs.length _ rfl HON.out (.string (txt pv)) rfl _ rfl (by simp) (by omega) (by omega) (by simp; omega) ?_)
            intro ao3 cap3 w5 hown4 hb4 hk4 _ _
            have HO4 : Hid (w5.ownsRow w1.heap.size 9 1 (.slice ao3 (vs.length + 1) cap3) (vs.length + 1) (strsV (vs ++ [pv]))) := by show World.ownsRow _ _ _ _ _ _ _; rw [HTK.out]; exact hown4
            have HI4 := Lib.hid (owns_keep HIN3.out fun g hg => hk4 g (by simpa using (HIN3.out.lt g hg).2) (own_apart HON.out HIN3.out (by decide) g hg))
            have HB4 := Lib.hid (HBN.out.trans hb4)
            clear hown4 hb4 hk4
            go_wp2
            go_roundg gk
            case rel => exact ⟨j + 1, ao3, cap3, vs ++ [pv], by go_num, by rw [List.length_append]; rfl, by omega, by omega, by rw [List.length_append]; simp; omega, HIN2.out, HLV2.out, by have := HO4.out; rw [List.length_append]; exact this, HI4.out, HB4.out⟩
            case measure => omega
          · have hq3 : ((pk : Int) == 3) = false := by rw [beq_eq_false_iff_ne]; omega
            clear hk3
            go_wp2
            go_roundg gk
            case rel => exact ⟨j + 1, ao4, cap4, vs, by go_num, rfl, by omega, by omega, by omega, HIN.out, HLV.out, HON.out, HIN3.out, HBN.out⟩
            case measure => omega
        · obtain rfl : j = its.length := by omega
          have HTX := Lib.hid (Tx.of_own HO.out)
          have HBF := Lib.hid (HB1.out.trans (HB.out.mono hs1))
          clear HO HB HI
          go_wp2
          go_ret
          exact ⟨_, vs, rfl, HTX.out, val_in HPS.out HIN.out, HLV.out, by omega, HBF.out⟩
set_option maxHeartbeats 1600000 in
theorem tame_any (s T : List UInt8) (enc : Int) (w : World) (C : Calls Tryz.prog 22 #[.string (txt s), .int .i64 enc] w (ValP w T)) :
    Calls Tryz.prog 17 #[.string (txt s), .int .i64 enc] w fun e w' => (∃ q : Bool, e = .returned (.bool q) ∧ (q = true → ∀ qs, plainR T = some qs → ∀ p ∈ qs, whS false p.r = true)) ∧ Below w.heap.size w w' := by
  obtain ⟨Q, hQ⟩ : ∃ Q : Bool → Prop, (fun q : Bool => (q = true → ∀ qs, plainR T = some qs → ∀ p ∈ qs, whS false p.r = true)) = Q := ⟨_, rfl⟩
  have HQ := Lib.hid hQ
  suffices h : Calls Tryz.prog 17 #[.string (txt s), .int .i64 enc] w fun e w' => ∃ q : Nat, (e = .returned (.bool (q == 1)) ∧ Hid (Q (q == 1))) ∧ Below w.heap.size w w' by
    refine h.mono ?_
    rintro e w' ⟨q, ⟨he, hq⟩, hb⟩
    refine ⟨⟨_, he, ?_⟩, hb⟩
    have := hq.out
    rw [← HQ.out] at this
    exact this
  clear hQ
  go_enter Tryz.func17, Tryz.ntmps17
  go_wp2_with fail
  refine C.mono ?_
  rintro e w1 ⟨v, vs, rfl, htx, hin, hlv, hvl, hb1⟩
  have HIN := Lib.hid hin
  have HLV := Lib.hid hlv
  have HB1 := Lib.hid hb1
  obtain ⟨ao, cap, rfl, hcap, hx⟩ := htx
  have HX := Lib.hid hx
  have QF : Hid (Q (0 == 1)) := by
    show Q _
    rw [← HQ.out]
    intro h; cases h
  clear hin hlv hb1 hx
  go_wp2
  go_loopg [6, 11] (vs.length + 1) (fun gk v6 v11 wr => ∃ j : Nat, v11 = .int .i64 j ∧ j ≤ vs.length ∧ vs.length - j < gk ∧ Hid (∀ x ∈ vs.take j, whS false x = true) ∧ wr = w1)
  case atStart => exact ⟨0, rfl, by omega, by omega, (fun x hx => by simp at hx), rfl⟩
  case round =>
    obtain ⟨j, rfl, hj, hg, HA, hwr⟩ := hrel
    obtain rfl := hwr.symm
    by_cases hlt : j < vs.length
    · obtain ⟨gk, rfl⟩ : ∃ m, gk = m + 1 := ⟨gk - 1, by omega⟩
      have hp := List.getElem?_eq_getElem hlt
      have htk := List.take_succ_eq_append_getElem hlt
      generalize vs[j] = x at hp htk
      obtain ⟨g, o, rfl, c0⟩ := HX.out j x hp
      have hxl := HLV.out x (List.mem_of_getElem? hp)
      have CW := Lib.hid (whole_any x w1 (by omega))
      obtain ⟨b, hb⟩ : ∃ b, whS false x = b := ⟨_, rfl⟩
      rw [hb] at CW
      have HTK := Lib.hid htk
      have HBB := Lib.hid hb
      clear hp htk hb
      go_wp2_with fail
      refine CW.out.mono ?_
      rintro e w2 ⟨rfl, hw2⟩
      obtain rfl := hw2.symm
      cases b with
      | true =>
        have HA2 : Hid (∀ x ∈ vs.take (j + 1), whS false x = true) := by
          show ∀ _ _, _
          intro y hy
          rw [HTK.out] at hy
          rcases List.mem_append.1 hy with hy | hy
          · exact HA.out y hy
          · rw [List.mem_singleton.1 hy]; exact HBB.out
        clear HA CW
        go_wp2
        go_roundg gk
        case rel => exact ⟨j + 1, by go_num, by omega, by omega, HA2.out, rfl⟩
        case measure => omega
      | false =>
        clear HA CW
        go_wp2
        go_ret
        exact ⟨0, ⟨rfl, QF.out⟩, HB1.out⟩
    · have QT : Hid (Q (1 == 1)) := by
        show Q _
        rw [← HQ.out]
        intro _ qs hq p hp
        have := HA.out
        rw [List.take_of_length_le (by omega)] at this
        exact this _ (HIN.out qs hq p hp)
      clear HA
      go_wp2
      go_ret
      exact ⟨⟨1, rfl, QT.out⟩, HB1.out⟩

set_option maxHeartbeats 1600000 in
theorem eq_textsQ (a : List (List UInt8)) (va vb : Value) (w : World) (ha : Tx w va a) (hb : Tx w vb a) (la : a.length ≤ 1000000) :
    Calls Tryz.prog 11 #[va, vb] w fun e w' => e = .returned (.bool true) ∧ ∃ m, w' = w.drewN m := by
  obtain ⟨ao, ca, rfl, hac, hax⟩ := ha
  obtain ⟨bo, cb, rfl, hbc, hbx⟩ := hb
  have HA := Lib.hid hax
  have HB := Lib.hid hbx
  clear hax hbx
  go_enter Tryz.func11, Tryz.ntmps11
  go_wp2
  go_loopg [5, 13] (a.length + 1) (fun gk v5 v13 wr => ∃ k m : Nat, v13 = .int .i64 k ∧ k ≤ a.length ∧ a.length - k < gk ∧ Hid (wr = w.drewN m))
  case atStart => exact ⟨0, 0, rfl, by omega, by omega, rfl⟩
  case round =>
    obtain ⟨k, m, rfl, hk, hg, HW⟩ := hrel
    have hw := HW.out
    subst hw
    clear HW
    by_cases hlt : k < a.length
    · obtain ⟨gk, rfl⟩ : ∃ m, gk = m + 1 := ⟨gk - 1, by omega⟩
      have hx := List.getElem?_eq_getElem hlt
      generalize a[k] = x at hx
      obtain ⟨g, o1, rfl, cx⟩ := HA.out k x hx
      obtain ⟨g2, o2, rfl, cy⟩ := HB.out k x hx
      have hq2 : ((txt x).toList == (txt x).toList) = true := by simp
      clear hx
      go_upto_region 6 with fail
      go_quiet (fail)
      go_wp2
      go_roundg gk
      case rel => exact ⟨k + 1, _, by go_num, by omega, by omega, rfl⟩
      case measure => omega
    · go_wp2
      go_ret
      exact ⟨rfl, _, rfl⟩
set_option maxHeartbeats 3200000 in
set_option maxRecDepth 100000 in
theorem eq_props (ps : List PropA) (va vb : Value) (w : World) (ha : Px w va ps) (hb : Px w vb ps) (hn : ps.length ≤ 1000000) (hc : ∀ p ∈ ps, p.c.length ≤ 1000000) :
    Calls Tryz.prog 18 #[va, vb, .bool true] w fun e w' => e = .returned (.bool true) ∧ ∃ m, w' = w.drewN m := by
  obtain ⟨ao, ca, rfl, hac, hax⟩ := ha
  obtain ⟨bo, cb, rfl, hbc, hbx⟩ := hb
  have HA := Lib.hid hax
  have HB := Lib.hid hbx
  have HC := Lib.hid hc
  clear hax hbx hc
  go_enter Tryz.func18, Tryz.ntmps18
  go_wp2
  go_loopg [7, 15] (ps.length + 1) (fun gk v7 v15 wr => ∃ k m : Nat, v15 = .int .i64 k ∧ k ≤ ps.length ∧ ps.length - k < gk ∧ Hid (wr = w.drewN m))
  case atStart => exact ⟨0, 0, rfl, by omega, by omega, rfl⟩
  case round =>
    obtain ⟨k, m, rfl, hk, hg, HW⟩ := hrel
    have hw := HW.out
    subst hw
    clear HW
    by_cases hlt : k < ps.length
    · obtain ⟨gk, rfl⟩ : ∃ m, gk = m + 1 := ⟨gk - 1, by omega⟩
      have hx := List.getElem?_eq_getElem hlt
      generalize ps[k] = p at hx
      obtain ⟨g, o1, cv, rfl, a0, a1, a2, a3, a4⟩ := HA.out k p hx
      obtain ⟨g2, o2, cv2, rfl, b0, b1, b2, b3, b4⟩ := HB.out k p hx
      have hpc := HC.out p (List.mem_of_getElem? hx)
      obtain ⟨pk, pr, px, pc⟩ := p
      simp only at a0 a1 a2 a3 a4 b0 b1 b2 b3 b4 hpc
      obtain ⟨W, hW⟩ : ∃ W, w.drewN m = W := ⟨_, rfl⟩
      have CE : Hid (∀ n : Nat, Calls Tryz.prog 11 #[cv, cv2] (W.drewN n) fun e w' => e = .returned (.bool true) ∧ ∃ m, w' = (W.drewN n).drewN m) := by
        show ∀ _, _
        intro n
        rw [← hW]
        exact eq_textsQ pc cv cv2 ((w.drewN m).drewN n) a4 b4 hpc
      have c0 : W.cell? ⟨g, o1 + k * 4, none⟩ = some (.string (txt pk)) := by rw [← hW]; exact a0
      have c1 : W.cell? ⟨g, o1 + k * 4 + 1, none⟩ = some (.string (txt pr)) := by rw [← hW]; exact a1
      have c2 : W.cell? ⟨g, o1 + k * 4 + 2, none⟩ = some (.string (txt px)) := by rw [← hW]; exact a2
      have c3 : W.cell? ⟨g, o1 + k * 4 + 3, none⟩ = some cv := by rw [← hW]; exact a3
      have d0 : W.cell? ⟨g2, o2 + k * 4, none⟩ = some (.string (txt pk)) := by rw [← hW]; exact b0
      have d1 : W.cell? ⟨g2, o2 + k * 4 + 1, none⟩ = some (.string (txt pr)) := by rw [← hW]; exact b1
      have d2 : W.cell? ⟨g2, o2 + k * 4 + 2, none⟩ = some (.string (txt px)) := by rw [← hW]; exact b2
      have d3 : W.cell? ⟨g2, o2 + k * 4 + 3, none⟩ = some cv2 := by rw [← hW]; exact b3
      rw [hW]
      have HW := Lib.hid hW
      have q1 : ((txt pk).toList == (txt pk).toList) = true := by simp
      have q2 : ((txt pr).toList == (txt pr).toList) = true := by simp
      have q3 : ((txt px).toList == (txt px).toList) = true := by simp
      obtain ⟨cao, ccap, rfl, _, _⟩ := a4
      obtain ⟨cao2, ccap2, rfl, _, _⟩ := b4
      clear hx hpc a0 a1 a2 a3 b0 b1 b2 b3 hW
      go_upto_region 6 with fail
      go_quiet (first | (go_at_call 11; refine Calls.quiet_of (CE.out _)))
      go_wp2
      go_roundg gk
      case rel => exact ⟨k + 1, m + nq, by go_num, by omega, by omega, by show _ = _; rw [← HW.out, World.drewN_drewN]⟩
      case measure => omega
    · go_wp2
      go_ret
      exact ⟨rfl, _, rfl⟩

theorem sc_byte (b : UInt8) : Sc b.toNat := by
  have := b.toNat_lt
  unfold Sc; omega
theorem latS_enc : ∀ s : List UInt8, latS s = enc (natL s)
  | [] => by
    unfold latS natL encA
    rw [List.map_nil, List.flatMap_nil, enc_nil]
  | b :: s => by
    have e : (Utf8.encode (b.toNat : Int)).data.toList = enc1 b.toNat := by
      rw [encode_enc1 _ (sc_byte b)]
      simp [txt]
    have e2 : latS (b :: s) = (Utf8.encode (b.toNat : Int)).data.toList ++ latS s := rfl
    rw [e2, e, latS_enc s]
    rfl
theorem scs_nat : ∀ s : List UInt8, Scs (natL s)
  | [] => Scs.nil
  | b :: s => Scs.cons (sc_byte b) (scs_nat s)
theorem rns_lat (s : List UInt8) : rns (latS s) = natL s := by rw [latS_enc, rns_enc _ (scs_nat s)]
theorem wR_nat : ∀ s : List UInt8, wR (natL s) = s.length + 5 * dl s
  | [] => rfl
  | b :: s => by
    show wR (b.toNat :: natL s) = _
    rw [wR_cons, wR_nat s, List.length_cons]
    by_cases h : b = 36
    · subst h
      have e36 : (36 : UInt8).toNat = 36 := rfl
      rw [dl_36, e36, if_pos rfl]; omega
    · have hn : ¬ b.toNat = 36 := fun e => h (UInt8.toNat_inj.1 (by rw [e]; rfl))
      rw [dl_ne _ _ h, if_neg hn]; omega
theorem bom_lat (s : List UInt8) : bomS (latS s) = latS s := by
  have hp : hasPrefix (latS s) [239, 187, 191] = false := by
    rw [latS_enc]
    cases s with
    | nil => rfl
    | cons b s =>
      show hasPrefix (enc1 b.toNat ++ enc (natL s)) [239, 187, 191] = false
      have hb := b.toNat_lt
      have key : ∃ x t, enc1 b.toNat = x :: t ∧ x ≠ 239 := by
        by_cases h : b.toNat < 128
        · refine ⟨_, _, enc1_a h, ?_⟩
          intro e
          have h2 := congrArg UInt8.toNat e
          rw [ofNat_toNat (by omega)] at h2
          have : (239 : UInt8).toNat = 239 := rfl
          omega
        · refine ⟨_, _, enc1_b (by omega) (by omega), ?_⟩
          intro e
          have h2 := congrArg UInt8.toNat e
          have h3 : ((192 + (b.toNat : Int) / 64).toNat.toUInt8).toNat = 192 + b.toNat / 64 := byte_of (by omega) (by omega)
          rw [h3] at h2
          have : (239 : UInt8).toNat = 239 := rfl
          omega
      obtain ⟨x, t, e, hx⟩ := key
      rw [e]
      unfold hasPrefix
      simp [List.isPrefixOf, Ne.symm hx]
  unfold bomS
  rw [hp]
  rfl
theorem ends_lat (s : List UInt8) (h1 : s.length ≤ 399) (h2 : dl s ≤ 8) (h : ∀ qs, plainR (latS s) = some qs → ∀ p ∈ qs, whS false p.r = true) : EndsT 100 70 (latS s) := by
  intro kv cs hp
  refine exD_all (latS s) ?_ kv cs hp fun p hpk => ?_
  · rw [rns_lat, wR_nat]; omega
  · have := h (kv.map (mkP Prod.snd cs)) (by unfold plainR; rw [hp]; rfl) (mkP Prod.snd cs p) (List.mem_map.2 ⟨p, hpk, rfl⟩)
    exact this
theorem full_small {N d : Nat} {T : List UInt8} {ps : List PropA} (hT : T.length ≤ 50000) (h : fullR N d T = some ps) : ps.length ≤ 1000000 ∧ ∀ p ∈ ps, p.c.length ≤ 1000000 := by
  unfold fullR at h
  cases hp : parseM (lexT T) [] [] [] with
  | none => rw [hp] at h; cases h
  | some r =>
    obtain ⟨kv, cs⟩ := r
    rw [hp] at h
    simp only [Option.bind_some] at h
    split at h
    · have h2 := Option.some.inj h
      subst h2
      obtain ⟨a, b⟩ := parse_small hT hp
      refine ⟨by rw [List.length_map]; exact a, fun p hp2 => ?_⟩
      obtain ⟨q, hq, rfl⟩ := List.mem_map.1 hp2
      exact b q.1
    · cases h
theorem lat_example : plainR (latS [97, 61, 228]) = some [⟨[97], [195, 164], [195, 164], []⟩] := by
  unfold plainR lexT
  rw [rns_lat]
  kernel_rfl
set_option maxHeartbeats 1600000 in
theorem few_any (s : List UInt8) (w : World) (hs : s.length ≤ 2147483647) :
    Calls Tryz.prog 14 #[.slice (some ⟨w.heap.size, 0, none⟩) 1 1] (w.alloc (.cells #[.string (txt s)] 9)) fun e w' => e = .returned (.bool (decide (s.length + 1 ≤ 400))) ∧ w' = w.alloc (.cells #[.string (txt s)] 9) := by
  have HT : Tx (w.alloc (.cells #[.string (txt s)] 9)) (.slice (some ⟨w.heap.size, 0, none⟩) 1 1) [s] := ⟨_, 1, rfl, Nat.le_refl _, fun j x hj => ⟨w.heap.size, 0, rfl, by
    rw [Nat.zero_add, World.cell?_alloc_new]
    match j, hj with
    | 0, hj => simp at hj; subst hj; rfl⟩⟩
  have C := Lib.hid (size_any [s] _ _ HT (by simp [szs]; omega))
  clear HT
  go_enter Tryz.func14, Tryz.ntmps14
  go_wp2_with fail
  refine C.out.mono ?_
  rintro e w1 ⟨rfl, hw1⟩
  obtain rfl := hw1.symm
  have hz : ([s].length + szs [s] : Nat) = s.length + 1 := by simp [szs]; omega
  rw [hz]
  have hd : decide (((s.length + 1 : Nat) : Int) ≤ 400) = decide (s.length + 1 ≤ 400) := by
    by_cases h : s.length + 1 ≤ 400
    · rw [decide_eq_true h, decide_eq_true (by omega)]
    · rw [decide_eq_false h, decide_eq_false (by omega)]
  have HD := Lib.hid hd
  clear hd hz
  go_wp2
  go_ret
  refine ⟨?_, rfl⟩
  rw [← HD.out]
  first | rfl | simp
set_option maxHeartbeats 12800000 in
set_option maxRecDepth 100000 in
theorem law_loadLatin (a0 : ByteArray) (w : World) (y0 : a0.size ≤ 140737488351232) (hT : Tabs w) :
    Calls Tryz.prog 5 #[.string a0] w fun e w' => e = .returned (.bool true) ∧ Below w.heap.size w w' := by
  obtain ⟨s, rfl⟩ : ∃ l, a0 = txt l := ⟨a0.data.toList, (txt_data a0).symm⟩
  have hz := txt_size s
  have HT := Lib.hid hT
  clear hT
  by_cases hbig : (2147483647 : Int) < s.length
  · go_enter Tryz.func5, Tryz.ntmps5
    go_wp2
    go_ret
    exact ⟨rfl, Below.refl _ _⟩
  have CX : Hid (Calls Tryz.prog 10 #[.string ⟨#[97, 61, 228]⟩, .int .i64 2, .bool true] w (ResP w (some [⟨[97], [195, 164], [195, 164], []⟩]))) := by
    have := loadP_isoP [97, 61, 228] w HT.out (by decide)
    rw [lat_example] at this
    exact this
  go_enter Tryz.func5, Tryz.ntmps5
  go_wp2_with fail
  refine CX.out.mono ?_
  rintro e w1 ⟨hb1, ⟨hn, _⟩ | ⟨ps, v, hps, rfl, hpx⟩⟩
  · cases hn
  cases hps
  have HB1 := Lib.hid hb1
  have hs1 := hb1.size
  obtain ⟨qao, qcap, rfl, hqc, hqp⟩ := hpx
  obtain ⟨g3, o3, cv3, rfl, h30, h31, _, _, _⟩ := hqp 0 _ rfl
  have d1 : w1.cell? ⟨g3, o3 + 1, none⟩ = some (.string (txt [195, 164])) := by simpa [Nat.add_assoc] using h31
  have e1 : ((txt [195, 164]).toList == ([195, 164] : List UInt8)) = true := by rw [txt_toList]; rfl
  simp only [List.length_cons, List.length_nil, Nat.zero_add] at hqc
  clear hb1 CX hqp h30 h31
  go_wp2_with fail
  refine (few_any s w1 (by omega)).mono ?_
  rintro e w2 ⟨rfl, rfl⟩
  have HB2 : Hid (Below w.heap.size w (w1.alloc (.cells #[.string (txt s)] 9))) := HB1.out.alloc hs1 _
  obtain ⟨W2, hW2⟩ : ∃ W2, w1.alloc (.cells #[.string (txt s)] 9) = W2 := ⟨_, rfl⟩
  rw [hW2] at HB2 ⊢
  have hs2 := HB2.out.size
  clear hW2 d1 e1
  by_cases hf : s.length + 1 ≤ 400
  · rw [decide_eq_true hf]
    go_wp2_with fail
    refine (dollars_any s W2 (by omega)).mono ?_
    rintro e w3 ⟨rfl, hw3⟩
    obtain rfl := hw3.symm
    by_cases hd : dl s ≤ 8
    · have hd8 : ¬ (8 : Int) < (dl s : Nat) := by omega
      go_wp2_with fail
      refine (begins_bom s W2).mono ?_
      rintro e w4 ⟨⟨q, rfl⟩, hw4⟩
      obtain rfl := hw4.symm
      cases q with
      | true =>
        go_wp2
        go_ret
        exact ⟨rfl, HB2.out⟩
      | false =>
        have CLT := Lib.hid (latin_any s W2 (by omega))
        go_wp2_with fail
        refine CLT.out.mono ?_
        rintro e w5 ⟨rfl, hb5⟩
        have HB5 := Lib.hid (HB2.out.trans (hb5.mono hs2))
        have hs5 := HB5.out.size
        have CTA := Lib.hid (tame_any s (latS s) 2 w5 (values_iso s w5 (HT.out.below HB5.out) (by omega)))
        clear hb5 CLT
        go_wp2_with fail
        refine CTA.out.mono ?_
        rintro e w6 ⟨⟨q, rfl, hq⟩, hb6⟩
        have HB6 := Lib.hid (HB5.out.trans (hb6.mono hs5))
        have hs6 := HB6.out.size
        have HQ := Lib.hid hq
        clear hb6 CTA hq
        cases q with
        | false =>
          go_wp2
          go_ret
          exact ⟨rfl, HB6.out⟩
        | true =>
          have hul := latS_le s
          have CTB := Lib.hid (tame_any (latS s) (bomS (latS s)) 1 w6 (values_utf (latS s) w6 (HT.out.below HB6.out) (by omega)))
          have HE : Hid (EndsT 100 70 (latS s)) := ends_lat s (by omega) hd (HQ.out rfl)
          clear HQ
          go_wp2_with fail
          refine CTB.out.mono ?_
          rintro e w7 ⟨⟨q, rfl, _⟩, hb7⟩
          have HB7 := Lib.hid (HB6.out.trans (hb7.mono hs6))
          have hs7 := HB7.out.size
          clear hb7 CTB
          cases q with
          | false =>
            go_wp2
            go_ret
            exact ⟨rfl, HB7.out⟩
          | true =>
            have C1 := Lib.hid (loadP_isoF 100 (by decide) 70 s w7 (HT.out.below HB7.out) (by omega) HE.out)
            have C2 : Hid (∀ (enc : Int), enc = 0 ∨ enc = 1 → ∀ W, Below w.heap.size w W → Calls Tryz.prog 10 #[.string (txt (latS s)), .int .i64 enc, .bool false] W (ResP W (fullR 100 70 (latS s)))) := by
              show ∀ _, _
              intro enc he W hW
              have := loadP_full 100 (by decide) 70 (latS s) enc W he (HT.out.below hW) (by omega) (by rw [bom_lat]; exact HE.out)
              rw [bom_lat] at this
              exact this
            have HSM : Hid (∀ ps, fullR 100 70 (latS s) = some ps → ps.length ≤ 1000000 ∧ ∀ p ∈ ps, p.c.length ≤ 1000000) := fun ps h => full_small (by omega) h
            obtain ⟨R, hR⟩ : ∃ R, fullR 100 70 (latS s) = R := ⟨_, rfl⟩
            rw [hR] at C1 C2 HSM
            clear hR HE
            cases R with
            | none =>
              go_wp2_with fail
              refine C1.out.mono ?_
              rintro e w8 ⟨hb8, ⟨_, rfl⟩ | ⟨ps, v, hps, _⟩⟩
              rotate_left
              · cases hps
              have HB8 := Lib.hid (HB7.out.trans (hb8.mono hs7))
              have hs8 := HB8.out.size
              clear hb8 C1
              go_wp2_with fail
              refine (C2.out 1 (.inr rfl) w8 HB8.out).mono ?_
              rintro e w9 ⟨hb9, ⟨_, rfl⟩ | ⟨ps, v, hps, _⟩⟩
              rotate_left
              · cases hps
              have HB9 := Lib.hid (HB8.out.trans (hb9.mono hs8))
              have hs9 := HB9.out.size
              clear hb9
              go_wp2_with fail
              refine (C2.out 0 (.inl rfl) w9 HB9.out).mono ?_
              rintro e w10 ⟨hb10, ⟨_, rfl⟩ | ⟨ps, v, hps, _⟩⟩
              rotate_left
              · cases hps
              have HB10 := Lib.hid (HB9.out.trans (hb10.mono hs9))
              clear hb10 C2
              have CE : Hid (∀ W, Calls Tryz.prog 18 #[.slice none 0 0, .slice none 0 0, .bool true] W fun e w' => e = .returned (.bool true) ∧ ∃ m, w' = W.drewN m) := fun W =>
                eq_props [] _ _ W ⟨none, 0, rfl, Nat.le_refl _, fun j p hj => by simp at hj⟩ ⟨none, 0, rfl, Nat.le_refl _, fun j p hj => by simp at hj⟩ (by simp) (fun p hp => by cases hp)
              go_wp2_with fail
              refine (CE.out w10).mono ?_
              rintro e w11 ⟨rfl, m1, hw11⟩
              have HB11 : Hid (Below w.heap.size w w11) := by rw [hw11]; exact ⟨HB10.out.os, HB10.out.tape, HB10.out.output, HB10.out.size, HB10.out.block⟩
              clear hw11
              go_wp2_with fail
              refine (CE.out w11).mono ?_
              rintro e w12 ⟨rfl, m2, hw12⟩
              have HB12 : Hid (Below w.heap.size w w12) := by rw [hw12]; exact ⟨HB11.out.os, HB11.out.tape, HB11.out.output, HB11.out.size, HB11.out.block⟩
              clear hw12
              go_wp2
              go_ret
              exact ⟨rfl, HB12.out⟩
            | some ps =>
              obtain ⟨hp1, hp2⟩ := HSM.out ps rfl
              have HP2 := Lib.hid hp2
              clear hp2 HSM
              go_wp2_with fail
              refine C1.out.mono ?_
              rintro e w8 ⟨hb8, ⟨hn, _⟩ | ⟨ps1, v1, hps, rfl, px1⟩⟩
              · cases hn
              cases hps
              have HB8 := Lib.hid (HB7.out.trans (hb8.mono hs7))
              have hs8 := HB8.out.size
              have PX1 := Lib.hid px1
              clear hb8 C1 px1
              go_wp2_with fail
              refine (C2.out 1 (.inr rfl) w8 HB8.out).mono ?_
              rintro e w9 ⟨hb9, ⟨hn, _⟩ | ⟨ps2, v2, hps, rfl, px2⟩⟩
              · cases hn
              cases hps
              have HB9 := Lib.hid (HB8.out.trans (hb9.mono hs8))
              have hs9 := HB9.out.size
              have PX12 := Lib.hid (PX1.out.below hb9)
              have PX2 := Lib.hid px2
              clear hb9 px2 PX1
              go_wp2_with fail
              refine (C2.out 0 (.inl rfl) w9 HB9.out).mono ?_
              rintro e w10 ⟨hb10, ⟨hn, _⟩ | ⟨ps3, v3, hps, rfl, px3⟩⟩
              · cases hn
              cases hps
              have HB10 := Lib.hid (HB9.out.trans (hb10.mono hs9))
              have PX13 := Lib.hid (PX12.out.below hb10)
              have PX23 := Lib.hid (PX2.out.below hb10)
              have PX3 := Lib.hid px3
              clear hb10 px3 C2 PX12 PX2
              have CE1 := Lib.hid (eq_props ps v1 v2 w10 PX13.out PX23.out hp1 HP2.out)
              have CE2 : Hid (∀ n, Calls Tryz.prog 18 #[v2, v3, .bool true] (w10.drewN n) fun e w' => e = .returned (.bool true) ∧ ∃ m, w' = (w10.drewN n).drewN m) := fun n =>
                eq_props ps v2 v3 (w10.drewN n) PX23.out PX3.out hp1 HP2.out
              go_wp2_with fail
              refine CE1.out.mono ?_
              rintro e w11 ⟨rfl, m1, hw11⟩
              obtain rfl := hw11.symm
              have C22 := Lib.hid (CE2.out m1)
              clear CE1 CE2
              obtain ⟨W11, hW11⟩ : ∃ W, w10.drewN m1 = W := ⟨_, rfl⟩
              have HB11 : Hid (Below w.heap.size w W11) := by rw [← hW11]; exact ⟨HB10.out.os, HB10.out.tape, HB10.out.output, HB10.out.size, HB10.out.block⟩
              rw [hW11] at C22 ⊢
              clear hW11
              go_wp2_with fail
              refine C22.out.mono ?_
              rintro e w12 ⟨rfl, m2, hw12⟩
              have HB12 : Hid (Below w.heap.size w w12) := by rw [hw12]; exact ⟨HB11.out.os, HB11.out.tape, HB11.out.output, HB11.out.size, HB11.out.block⟩
              clear hw12
              go_wp2
              go_ret
              exact ⟨rfl, HB12.out⟩
    · have hd8 : (8 : Int) < (dl s : Nat) := by omega
      clear hd
      go_wp2
      go_ret
      exact ⟨rfl, HB2.out⟩
  · rw [decide_eq_false hf]
    go_wp2
    go_ret
    exact ⟨rfl, HB2.out⟩

end Go.Proofs.YtgbfphaccjjdnaaGreatDoor
