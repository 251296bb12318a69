/- The tables that the law FnFirstSays reads, the contracts of unicode over them, capitals and small letters apart; plain functions. -/
import Derived.Test.YthanbbflemkomaaDoorMTab
import Derived.Test.YthanbbflemkomaaDoorKTx
import Derived.Test.YthanbbflemkomaaDoorCHas
namespace Go.Proofs.YthanbbflemkomaaDoor
open Go.RowKit U8
open Go.Lib hiding intOf

structure Ft (w : World) : Prop where
  u8 : Utf8Tabs 3 4 w
  pr : Lib.TabIs Tryd.prog w "unicode.properties" .u8 Lib.propertiesTab
  up : RVar 7 upperT w
  lo : RVar 6 lowerT w
  le : RVar 1 letterT w
  ti : RVar 5 titleT w
  ca : CaseVar 9 caseA w
theorem Ft.below {w w' : World} (h : Ft w) (hb : Below w.heap.size w w') : Ft w' :=
  ⟨Utf8Tabs_below h.u8 hb, TabIs_below (P := Tryd.prog) (g := 0) (by kernel_rfl) h.pr hb, RVar_below h.up hb, RVar_below h.lo hb, RVar_below h.le hb, RVar_below h.ti hb, caseVar_below h.ca hb⟩
theorem dec_f (a rest : List UInt8) (r : Nat) (w : World) (ha : a ≠ []) (hd : decodeL (a ++ rest) = (r, a.length)) (hT : Ft w) :
    Calls Tryd.prog 66 #[.string (txt (a ++ rest))] w fun e w' => e = .returned (.tuple #[.int .i32 r, .int .i64 a.length]) ∧ Below w.heap.size w w' := by
  have := Tryd.utf8_DecodeRuneInString (txt (a ++ rest)) w hT.u8
  have e : decodeGo (txt (a ++ rest)) = (r, a.length) := by
    have hl : 0 < a.length := List.length_pos_iff.2 ha
    unfold decodeGo
    rw [if_neg (by rw [txt_size, List.length_append]; omega)]
    exact hd
  rw [e] at this
  exact this
theorem up_f (r : Int) (b : Bool) (w : World) (hr : I32 r) (hb : isUpperU r = b) (hT : Ft w) :
    Calls Tryd.prog 74 #[.int .i32 r] w fun e w' => e = .returned (.bool b) ∧ Below w.heap.size w w' := hb ▸ Tryd.unicode_IsUpper_all r w hr.1 hr.2 hT.pr hT.up
theorem lo_f (r : Int) (b : Bool) (w : World) (hr : I32 r) (hb : isLowerU r = b) (hT : Ft w) :
    Calls Tryd.prog 73 #[.int .i32 r] w fun e w' => e = .returned (.bool b) ∧ Below w.heap.size w w' := hb ▸ Tryd.unicode_IsLower_all r w hr.1 hr.2 hT.pr hT.lo
theorem le_f (r : Int) (b : Bool) (w : World) (hr : I32 r) (hb : isLetterU r = b) (hT : Ft w) :
    Calls Tryd.prog 51 #[.int .i32 r] w fun e w' => e = .returned (.bool b) ∧ Below w.heap.size w w' := hb ▸ Tryd.unicode_IsLetter_all r w hr.1 hr.2 hT.pr hT.le
theorem ti_f (r : Int) (b : Bool) (w : World) (hr : I32 r) (hb : isTitleU r = b) (hT : Ft w) :
    Calls Tryd.prog 72 #[.int .i32 r] w fun e w' => e = .returned (.bool b) ∧ Below w.heap.size w w' := hb ▸ Tryd.unicode_IsTitle_all r w hr.1 hr.2 hT.ti
theorem tu_f (r z : Int) (w : World) (hz : toUpperU r = z) (hT : Ft w) :
    Calls Tryd.prog 67 #[.int .i32 r] w fun e w' => e = .returned (.int .i32 z) ∧ Below w.heap.size w w' :=
  hz ▸ (Tryd.unicode_ToUpper_laid r w hT.ca).mono fun _ _ h => ⟨h.1, below_drawn h.2⟩
theorem tl_f (r z : Int) (w : World) (hz : toLowerU r = z) (hT : Ft w) :
    Calls Tryd.prog 75 #[.int .i32 r] w fun e w' => e = .returned (.int .i32 z) ∧ Below w.heap.size w w' :=
  hz ▸ (Tryd.unicode_ToLower_laid r w hT.ca).mono fun _ _ h => ⟨h.1, below_drawn h.2⟩

/-! ### no capital is a small letter -/
def inRg (x : Rg) (r : Nat) : Prop := x.1 ≤ r ∧ r ≤ x.2.1 ∧ x.has r = true
theorem linGo_in (T : Array Rg) (r : Nat) : ∀ (f i : Nat), linGo T r f i = true → ∃ x ∈ T.toList, inRg x r
  | 0, _, h => by simp [linGo] at h
  | f + 1, i, h => by
    unfold linGo at h
    by_cases hi : i < T.size
    · rw [if_pos hi] at h
      by_cases h1 : r < (T.getD i (0, 0, 0)).1
      · rw [if_pos h1] at h; cases h
      · rw [if_neg h1] at h
        by_cases h2 : r ≤ (T.getD i (0, 0, 0)).2.1
        · rw [if_pos h2] at h
          exact ⟨T.getD i (0, 0, 0), by simp [Array.getD, hi], by omega, h2, h⟩
        · rw [if_neg h2] at h
          exact linGo_in T r f _ h
    · rw [if_neg hi] at h; cases h
theorem binGo_in (T : Array Rg) (r : Nat) : ∀ (f lo hi : Nat), hi ≤ T.size → binGo T r f lo hi = true → ∃ x ∈ T.toList, inRg x r
  | 0, _, _, _, h => by simp [binGo] at h
  | f + 1, lo, hi, hs, h => by
    unfold binGo at h
    split at h
    · rename_i hlt
      split at h
      · rename_i hin
        refine ⟨T.getD ((lo + hi) / 2) (0, 0, 0), ?_, hin.1, hin.2, h⟩
        have : (lo + hi) / 2 < T.size := by omega
        simp [Array.getD, this]
      · split at h
        · exact binGo_in T r f _ _ (by omega) h
        · exact binGo_in T r f _ _ hs h
    · cases h
theorem is16_in {T : Array Rg} {r : Nat} (h : is16Go T r = true) : ∃ x ∈ T.toList, inRg x r := by
  unfold is16Go at h
  split at h
  · exact linGo_in T r _ _ h
  · exact binGo_in T r _ _ _ (Nat.le_refl _) h
theorem is32_in {T : Array Rg} {r : Nat} (h : is32Go T r = true) : ∃ x ∈ T.toList, inRg x r := by
  unfold is32Go at h
  split at h
  · exact linGo_in T r _ _ h
  · exact binGo_in T r _ _ _ (Nat.le_refl _) h
theorem excl_in {T : RTab} {r : Int} (hhi : (T.r16.getD (T.r16.size - 1) (0, 0, 0)).2.1 < 65536) (h : exclGo T r = true) : (u32Of r < 65536 ∧ ∃ x ∈ T.r16.toList, inRg x (u32Of r)) ∨ ∃ x ∈ T.r32.toList, inRg x (u32Of r) := by
  unfold exclGo at h
  split at h
  · rename_i hc
    have hm : u32Of r % 65536 = u32Of r := Nat.mod_eq_of_lt (by omega)
    rw [hm] at h
    obtain ⟨x, hx, hin⟩ := is16_in h
    refine .inl ⟨by omega, x, ?_, hin⟩
    rw [Array.toList_extract] at hx
    exact List.mem_of_mem_drop (List.mem_of_mem_take hx)
  · split at h
    · exact .inr (is32_in h)
    · cases h
/-- Two ranges have no number in common. -/
def djB (x y : Rg) : Bool := decide (x.2.1 < y.1) || (decide (y.2.1 < x.1) || (List.range (min x.2.1 y.2.1 + 1 - max x.1 y.1)).all fun k => !(x.has (max x.1 y.1 + k) && y.has (max x.1 y.1 + k)))
theorem dj_of {x y : Rg} {r : Nat} (h : djB x y = true) (hx : inRg x r) (hy : inRg y r) : False := by
  obtain ⟨a1, a2, a3⟩ := hx
  obtain ⟨b1, b2, b3⟩ := hy
  unfold djB at h
  simp only [Bool.or_eq_true, decide_eq_true_eq] at h
  rcases h with h | h | h
  · omega
  · omega
  · have h2 := List.all_eq_true.1 h (r - max x.1 y.1) (List.mem_range.2 (by omega))
    rw [show max x.1 y.1 + (r - max x.1 y.1) = r by omega, a3, b3] at h2
    cases h2
theorem dj16 : (upperT.r16.toList.all fun x => lowerT.r16.toList.all fun y => djB x y) = true := by kernel_rfl
theorem dj32 : (upperT.r32.toList.all fun x => lowerT.r32.toList.all fun y => djB x y) = true := by kernel_rfl
theorem dj_lo : (lowerT.r32.toList.all fun y => decide (65536 ≤ y.1)) = true := by kernel_rfl
theorem dj_up : (upperT.r32.toList.all fun y => decide (65536 ≤ y.1)) = true := by kernel_rfl
theorem up_not_lo {r : Int} (h : isUpperU r = true) : isLowerU r = false := by
  cases h2 : isLowerU r with
  | false => rfl
  | true =>
    exfalso
    unfold isUpperU at h
    unfold isLowerU at h2
    by_cases hl : latin1 r = true
    · rw [if_pos hl] at h h2
      unfold isUpperL at h
      unfold isLowerL at h2
      simp only [decide_eq_true_eq] at h h2
      omega
    · rw [if_neg hl] at h h2
      rcases excl_in (of_decide_eq_true (by kernel_rfl)) h with ⟨h5, x, hx, hxi⟩ | ⟨x, hx, hxi⟩
      · rcases excl_in (of_decide_eq_true (by kernel_rfl)) h2 with ⟨_, y, hy, hyi⟩ | ⟨y, hy, hyi⟩
        · exact dj_of (List.all_eq_true.1 (List.all_eq_true.1 dj16 x hx) y hy) hxi hyi
        · have := of_decide_eq_true (List.all_eq_true.1 dj_lo y hy)
          have := hyi.1
          omega
      · rcases excl_in (of_decide_eq_true (by kernel_rfl)) h2 with ⟨h6, y, hy, hyi⟩ | ⟨y, hy, hyi⟩
        · have := of_decide_eq_true (List.all_eq_true.1 dj_up x hx)
          have := hxi.1
          omega
        · exact dj_of (List.all_eq_true.1 (List.all_eq_true.1 dj32 x hx) y hy) hxi hyi

/-! ### plain functions -/
theorem encode_any (r : Int) : Utf8.encode r = txt (encodeRune r) := by
  by_cases h : 0 ≤ r ∧ (r < 55296 ∨ 57343 < r) ∧ r ≤ 1114111
  · obtain ⟨n, rfl⟩ : ∃ n : Nat, r = n := ⟨r.toNat, by omega⟩
    exact encode_enc1 n (by unfold Sc; omega)
  · have hv : Utf8.valid r = false := by unfold Utf8.valid; simp; omega
    have e : Utf8.encode r = Utf8.encode ((65533 : Nat) : Int) := by
      unfold Utf8.encode
      rw [hv]
      rfl
    rw [e, encode_enc1 65533 (by unfold Sc; omega)]
    unfold encodeRune
    rw [encodeRuneZ_bad (by omega)]
    rfl
theorem runesBytes_any_go : ∀ (zs : List Int) (d : List UInt8), zs.foldl (fun s n => s ++ Utf8.encode n) (txt d) = txt (d ++ zs.flatMap encodeRune)
  | [], d => by simp
  | z :: zs, d => by rw [List.foldl_cons, encode_any, txt_append, runesBytes_any_go zs, List.flatMap_cons, List.append_assoc]
theorem runesBytes_any (zs : List Int) : runesBytes zs = txt (zs.flatMap encodeRune) := by
  have := runesBytes_any_go zs []
  rw [List.nil_append] at this
  exact this
/-- FirstRuneToUpper, FirstRuneToLower. -/
def fU (f : Int → Int) (l : List UInt8) : List UInt8 :=
  match pcs l with
  | [] => []
  | (a, r) :: _ => if f r = r then l else encodeRune (f r) ++ l.drop a.length
theorem fU_nil (f : Int → Int) : fU f [] = [] := rfl
theorem fU_cons (f : Int → Int) (a rest : List UInt8) (r : Nat) (ha : a ≠ []) (hd : decodeL (a ++ rest) = (r, a.length)) : fU f (a ++ rest) = if f r = r then a ++ rest else encodeRune (f r) ++ rest := by
  unfold fU
  rw [pcs_cons a rest r ha hd]
  simp
def swR (r : Int) : Int := if isUpperU r then toLowerU r else if isLowerU r then toUpperU r else r
def swU (l : List UInt8) : List UInt8 := (rns l).flatMap fun (r : Nat) => encodeRune (swR (r : Int))
/-- The reference's cased. -/
def cs (u lw : Bool) (c : Int) : Option Int :=
  if isTitleU c || (!isLowerU c && toUpperU c != c) || (!isUpperU c && toLowerU c != c) then none
  else some (if isLowerU c && u then toUpperU c else if isUpperU c && lw then toLowerU c else c)
theorem cs_sw {c z : Int} (h : cs true true c = some z) : z = swR c := by
  unfold cs at h
  split at h
  · cases h
  · cases h
    unfold swR
    cases hu : isUpperU c with
    | true => rw [up_not_lo hu]; simp
    | false => cases isLowerU c <;> simp
theorem cs_up {r : Nat} {rs : List Nat} {z : Int} (hs : Scs (r :: rs)) (h : cs true false r = some z) : fU toUpperU (enc (r :: rs)) = encodeRune z ++ enc rs := by
  rw [enc_cons, fU_cons toUpperU (enc1 r) (enc rs) r (enc1_ne r) (decode_enc r rs hs.head)]
  unfold cs at h
  split at h
  · cases h
  · rename_i hn
    cases h
    simp at hn
    by_cases e : toUpperU r = r
    · rw [if_pos e, e]
      cases isLowerU (r : Int) <;> simp <;> rfl
    · rw [if_neg e]
      cases hl : isLowerU (r : Int) with
      | true => simp
      | false => exact absurd (hn.1.2 hl) e
theorem cs_lo {r : Nat} {rs : List Nat} {z : Int} (hs : Scs (r :: rs)) (h : cs false true r = some z) : fU toLowerU (enc (r :: rs)) = encodeRune z ++ enc rs := by
  rw [enc_cons, fU_cons toLowerU (enc1 r) (enc rs) r (enc1_ne r) (decode_enc r rs hs.head)]
  unfold cs at h
  split at h
  · cases h
  · rename_i hn
    cases h
    simp at hn
    by_cases e : toLowerU r = r
    · rw [if_pos e, e]
      cases isUpperU (r : Int) <;> simp <;> rfl
    · rw [if_neg e]
      cases hl : isUpperU (r : Int) with
      | true => simp
      | false => exact absurd (hn.2 hl) e

end Go.Proofs.YthanbbflemkomaaDoor
