/- Plain functions on lists of bytes: what strcase's ToCamel and ToScreamingDelimited compute; no program is in sight. -/
import Derived.Test.YthanbbflemkomaaDoorU8
import Derived.Lib.TrimAscii
namespace Go.Proofs.YthanbbflemkomaaDoor
open Go.Lib U8

def isCap (b : UInt8) : Bool := decide (65 ≤ b.toNat ∧ b.toNat ≤ 90)
def isLow (b : UInt8) : Bool := decide (97 ≤ b.toNat ∧ b.toNat ≤ 122)
def isNum (b : UInt8) : Bool := decide (48 ≤ b.toNat ∧ b.toNat ≤ 57)
def isSep (b : UInt8) : Bool := decide (b.toNat = 32 ∨ b.toNat = 95 ∨ b.toNat = 45 ∨ b.toNat = 46)
def toUp (b : UInt8) : UInt8 := if 97 ≤ b.toNat ∧ b.toNat ≤ 122 then (b.toNat - 32).toUInt8 else b
def toLo (b : UInt8) : UInt8 := if 65 ≤ b.toNat ∧ b.toNat ≤ 90 then (b.toNat + 32).toUInt8 else b
def isAln (b : UInt8) : Bool := isCap b || isLow b || isNum b

theorem u8n {n : Nat} (h : n < 256) : n.toUInt8.toNat = n := by
  show (UInt8.ofNat n).toNat = n
  rw [UInt8.toNat_ofNat']; omega
theorem toUp_nat (b : UInt8) : (toUp b).toNat = if 97 ≤ b.toNat ∧ b.toNat ≤ 122 then b.toNat - 32 else b.toNat := by
  unfold toUp
  split
  · exact u8n (by omega)
  · rfl
theorem toLo_nat (b : UInt8) : (toLo b).toNat = if 65 ≤ b.toNat ∧ b.toNat ≤ 90 then b.toNat + 32 else b.toNat := by
  unfold toLo
  split
  · exact u8n (by omega)
  · rfl
theorem toLo_up (b : UInt8) : toLo (toUp b) = toLo b := by
  apply UInt8.toNat_inj.1
  rw [toLo_nat, toLo_nat, toUp_nat]
  repeat' split
  all_goals omega
theorem toLo_lo (b : UInt8) : toLo (toLo b) = toLo b := by
  apply UInt8.toNat_inj.1
  rw [toLo_nat, toLo_nat]
  repeat' split
  all_goals omega

/-! ### ToCamel -/
def camV (cn e : Bool) (b : UInt8) : UInt8 := if cn then toUp b else if e then toLo b else b
def camN (b : UInt8) : Bool := if isCap b || isLow b then false else if isNum b then true else isSep b
def camO (cn e : Bool) (b : UInt8) : List UInt8 := if isAln b then [camV cn e b] else []
def cam : Bool → Bool → List UInt8 → List UInt8
  | _, _, [] => []
  | cn, e, b :: l => camO cn e b ++ cam (camN b) (isCap b) l

theorem toLo_camV (cn e : Bool) (b : UInt8) : toLo (camV cn e b) = toLo b := by
  unfold camV
  split
  · exact toLo_up b
  split
  · exact toLo_lo b
  · rfl
theorem cam_lo : ∀ (cn e : Bool) (l : List UInt8), (cam cn e l).map toLo = (l.filter isAln).map toLo
  | _, _, [] => rfl
  | cn, e, b :: l => by
    rw [cam, List.map_append, cam_lo, camO]
    by_cases h : isAln b = true
    · rw [if_pos h, List.filter_cons_of_pos h, List.map_cons, List.map_cons, toLo_camV]; rfl
    · rw [if_neg h, List.filter_cons_of_neg h]; rfl
theorem isAln_nat (b : UInt8) : isAln b = decide ((65 ≤ b.toNat ∧ b.toNat ≤ 90) ∨ (97 ≤ b.toNat ∧ b.toNat ≤ 122) ∨ (48 ≤ b.toNat ∧ b.toNat ≤ 57)) := by
  unfold isAln isCap isLow isNum
  rw [Bool.eq_iff_iff]
  simp only [Bool.or_eq_true, decide_eq_true_eq]
  omega
theorem aln_camV (cn e : Bool) (b : UInt8) (h : isAln b = true) : isAln (camV cn e b) = true := by
  rw [isAln_nat, decide_eq_true_eq] at h ⊢
  unfold camV
  repeat' split
  · rw [toUp_nat]; split <;> omega
  · rw [toLo_nat]; split <;> omega
  · exact h
theorem cam_aln : ∀ (cn e : Bool) (l : List UInt8), ∀ b ∈ cam cn e l, isAln b = true
  | _, _, [], b, hb => by cases hb
  | cn, e, c :: l, b, hb => by
    rw [cam, List.mem_append] at hb
    rcases hb with hb | hb
    · unfold camO at hb
      split at hb
      · rename_i hc
        obtain rfl : b = camV cn e c := by simpa using hb
        exact aln_camV cn e c hc
      · cases hb
    · exact cam_aln _ _ l b hb
theorem cam_len : ∀ (cn e : Bool) (l : List UInt8), (cam cn e l).length ≤ l.length
  | _, _, [] => Nat.le_refl _
  | cn, e, b :: l => by
    have := cam_len (camN b) (isCap b) l
    rw [cam, List.length_append, List.length_cons, camO]
    split <;> simp <;> omega
/-- What a byte is turned into that parts words as the other one does. -/
theorem cam_map (f : UInt8 → UInt8) (h : ∀ b, isAln b = true → f b = b) (hn : ∀ b, isAln (f b) = isAln b) (hc : ∀ b, camN (f b) = camN b) (hk : ∀ b, isCap (f b) = isCap b) :
    ∀ (cn e : Bool) (l : List UInt8), cam cn e (l.map f) = cam cn e l
  | _, _, [] => rfl
  | cn, e, b :: l => by
    rw [List.map_cons, cam, cam, hc, hk, cam_map f h hn hc hk, camO, camO, hn]
    by_cases hb : isAln b = true
    · rw [if_pos hb, if_pos hb, h b hb]
    · rw [if_neg hb, if_neg hb]

/-! ### blanks at both ends -/
theorem trimLeft_asc : ∀ (f : Nat) (l : List UInt8), l.length ≤ f → (∀ b ∈ l, b.toNat < 128) → trimLeftD f l = l.dropWhile isSp
  | 0, l, hf, _ => by
    have : l = [] := List.eq_nil_of_length_eq_zero (by omega)
    rw [this]; rfl
  | f + 1, [], _, _ => by rw [trimLeftD_nil]; rfl
  | f + 1, b :: l, hf, h => by
    cases hb : isSp b with
    | true => rw [left_step f b l hb, List.dropWhile_cons_of_pos hb]; exact trimLeft_asc f l (by simp at hf; omega) (fun c hc => h c (by simp [hc]))
    | false => rw [left_stop f b l hb (h b (by simp)), List.dropWhile_cons_of_neg (by simp [hb])]
theorem trimRight_asc : ∀ (f : Nat) (l : List UInt8), l.length ≤ f → (∀ b ∈ l, b.toNat < 128) → trimRightD f l = (l.reverse.dropWhile isSp).reverse
  | 0, l, hf, _ => by
    have : l = [] := List.eq_nil_of_length_eq_zero (by omega)
    rw [this]; rfl
  | f + 1, l, hf, h => by
    rcases List.eq_nil_or_concat l with rfl | ⟨t, b, rfl⟩
    · rw [trimRightD_nil]; rfl
    · rw [List.concat_eq_append] at *
      cases hb : isSp b with
      | true =>
        rw [right_step f t b hb, List.reverse_append, List.reverse_singleton, List.singleton_append, List.dropWhile_cons_of_pos hb]
        exact trimRight_asc f t (by simp at hf; omega) (fun c hc => h c (by simp [hc]))
      | false =>
        rw [right_stop f t b hb (h b (by simp)), List.reverse_append, List.reverse_singleton, List.singleton_append, List.dropWhile_cons_of_neg (by simp [hb])]
        simp
theorem trim_asc (l : List UInt8) (h : ∀ b ∈ l, b.toNat < 128) : trimSpaceD l = trimSpace l := by
  unfold trimSpaceD trimSpace
  have h1 := trimLeft_asc l.length l (Nat.le_refl _) h
  rw [h1]
  exact trimRight_asc l.length _ (List.dropWhile_sublist _).length_le (fun b hb => h b ((List.dropWhile_sublist _).subset hb))
theorem dropWhile_map (f : UInt8 → UInt8) (h : ∀ b, isSp (f b) = isSp b) : ∀ l : List UInt8, (l.map f).dropWhile isSp = (l.dropWhile isSp).map f
  | [] => rfl
  | b :: l => by
    rw [List.map_cons]
    cases hb : isSp b with
    | true => rw [List.dropWhile_cons_of_pos hb, List.dropWhile_cons_of_pos (by rw [h]; exact hb)]; exact dropWhile_map f h l
    | false => rw [List.dropWhile_cons_of_neg (p := isSp) (a := f b) (by rw [h]; simp [hb]), List.dropWhile_cons_of_neg (p := isSp) (a := b) (by simp [hb])]; rfl
theorem trim_map (f : UInt8 → UInt8) (h : ∀ b, isSp (f b) = isSp b) (l : List UInt8) : trimSpace (l.map f) = (trimSpace l).map f := by
  unfold trimSpace
  rw [dropWhile_map f h, ← List.map_reverse, dropWhile_map f h, ← List.map_reverse]
theorem trim_sub (l : List UInt8) : ∀ b ∈ trimSpace l, b ∈ l := by
  intro b hb
  unfold trimSpace at hb
  have h1 := (List.dropWhile_sublist (p := isSp) (l := (l.dropWhile isSp).reverse)).subset (List.mem_reverse.1 hb)
  exact (List.dropWhile_sublist _).subset (List.mem_reverse.1 h1)
theorem trimRight_len : ∀ (f : Nat) (l : List UInt8), (trimRightD f l).length ≤ l.length
  | 0, l => Nat.le_refl _
  | f + 1, l => by
    unfold trimRightD
    split
    · simp
    split
    · exact Nat.le_trans (trimRight_len f _) (by rw [List.length_take]; omega)
    · exact Nat.le_refl _
theorem trim_len (l : List UInt8) : (trimSpaceD l).length ≤ l.length := by
  unfold trimSpaceD
  exact Nat.le_trans (trimRight_len _ _) (trimLeftD_le _ _)

/-! ### ToScreamingDelimited -/
def oCap : Option UInt8 → Bool | none => false | some b => isCap b
def oLow : Option UInt8 → Bool | none => false | some b => isLow b
def oNum : Option UInt8 → Bool | none => false | some b => isNum b
/-- Does the kind of the letters change behind a byte? -/
def bord (b : UInt8) (nx : Option UInt8) : Bool := (isCap b && (oLow nx || oNum nx)) || (isLow b && (oCap nx || oNum nx)) || (isNum b && (oCap nx || oLow nx))
def turn (scr : Bool) (b : UInt8) : UInt8 := if scr then toUp b else toLo b
/-- 'g': is a byte to be ignored? -/
def delO (d : UInt8) (scr : Bool) (g : UInt8 → Bool) (pr : Option UInt8) (b : UInt8) (nx : Option UInt8) : List UInt8 :=
  if bord b nx && !(match pr with | none => false | some p => g p) then
    (if isCap b && oLow nx && oCap pr then [d] else []) ++ turn scr b :: (if isLow b || isNum b || oNum nx then [d] else [])
  else if isSep b && !g b then [d] else [turn scr b]
def del (d : UInt8) (scr : Bool) (g : UInt8 → Bool) : Option UInt8 → List UInt8 → List UInt8
  | _, [] => []
  | pr, b :: l => delO d scr g pr b l.head? ++ del d scr g (some b) l
theorem delO_len (d : UInt8) (scr : Bool) (g : UInt8 → Bool) (pr : Option UInt8) (b : UInt8) (nx : Option UInt8) : (delO d scr g pr b nx).length ≤ 3 := by
  unfold delO
  repeat' split
  all_goals simp
theorem del_len (d : UInt8) (scr : Bool) (g : UInt8 → Bool) : ∀ (pr : Option UInt8) (l : List UInt8), (del d scr g pr l).length ≤ 3 * l.length
  | _, [] => Nat.le_refl _
  | pr, b :: l => by
    have := del_len d scr g (some b) l
    have := delO_len d scr g pr b l.head?
    rw [del, List.length_append, List.length_cons]; omega
/-- ANOTHER DELIMITER stands where the underscore does. -/
theorem delO_swap (d : UInt8) (scr : Bool) (pr : Option UInt8) (b : UInt8) (nx : Option UInt8) : (delO 95 scr (fun _ => false) pr b nx).map (fun x => if x = 95 then d else x) = delO d scr (fun _ => false) pr b nx := by
  have ht : ∀ c : UInt8, isSep c = false → turn scr c ≠ 95 := by
    intro c hc h
    have h2 := congrArg UInt8.toNat h
    have h3 : (95 : UInt8).toNat = 95 := rfl
    unfold isSep at hc
    rw [decide_eq_false_iff_not] at hc
    unfold turn at h2
    split at h2
    · rw [toUp_nat, h3] at h2; split at h2 <;> omega
    · rw [toLo_nat, h3] at h2; split at h2 <;> omega
  have hb : ∀ c nx, bord c nx = true → isSep c = false := by
    intro c nx h
    unfold isSep
    rw [decide_eq_false_iff_not]
    unfold bord isCap isLow isNum at h
    simp only [Bool.or_eq_true, Bool.and_eq_true, decide_eq_true_eq] at h
    omega
  unfold delO
  have hm : (match pr with | none => false | some _ => false) = false := by cases pr <;> rfl
  rw [hm]
  by_cases h1 : bord b nx = true
  · rw [h1]
    have h2 := ht b (hb b nx h1)
    simp only [Bool.not_false, Bool.and_self, if_true, List.map_append, List.map_cons, if_neg h2]
    congr 1
    · split <;> simp
    · congr 1
      split <;> simp
  · have h1' : bord b nx = false := by simpa using h1
    rw [h1']
    simp only [Bool.not_false, Bool.and_true]
    cases h3 : isSep b with
    | true => simp
    | false => simp [ht b h3]
theorem del_swap (d : UInt8) (scr : Bool) : ∀ (pr : Option UInt8) (l : List UInt8), (del 95 scr (fun _ => false) pr l).map (fun x => if x = 95 then d else x) = del d scr (fun _ => false) pr l
  | _, [] => rfl
  | pr, b :: l => by rw [del, del, List.map_append, delO_swap, del_swap]

/-! ### the reference's ToCamel -/
def scamO (great : Bool) (pr : Option UInt8) (b : UInt8) : List UInt8 :=
  if isAln b then [match pr with | none => turn great b | some p => if isNum p || isSep p then toUp b else if isCap p then toLo b else b] else []
def scam (great : Bool) : Option UInt8 → List UInt8 → List UInt8
  | _, [] => []
  | pr, b :: l => scamO great pr b ++ scam great (some b) l
theorem camN_eq (p : UInt8) : camN p = (isNum p || isSep p) := by
  unfold camN isNum isSep isCap isLow
  rw [Bool.eq_iff_iff]
  by_cases h : 65 ≤ p.toNat ∧ p.toNat ≤ 90 ∨ 97 ≤ p.toNat ∧ p.toNat ≤ 122
  · rw [if_pos (by simpa [Bool.or_eq_true, decide_eq_true_eq] using h)]
    simp only [Bool.or_eq_true, decide_eq_true_eq]
    constructor
    · intro h; cases h
    · intro; omega
  · rw [if_neg (by simpa [Bool.or_eq_true, decide_eq_true_eq] using h)]
    by_cases h2 : 48 ≤ p.toNat ∧ p.toNat ≤ 57
    · simp [h2]
    · simp [h2]
theorem scam_some (great : Bool) : ∀ (p : UInt8) (l : List UInt8), scam great (some p) l = cam (camN p) (isCap p) l
  | _, [] => rfl
  | p, b :: l => by
    rw [scam, cam, scam_some great b l, camN_eq p]
    congr 1
theorem scam_none (great : Bool) (l : List UInt8) : scam great none l = cam great true l := by
  cases l with
  | nil => rfl
  | cons b l =>
    rw [scam, cam, scam_some]
    congr 1
/-- The words of strcase's documentation's own exception. -/
def idL : List UInt8 := [73, 68]

end Go.Proofs.YthanbbflemkomaaDoor
