/- The tables that xstrings reads at the seat of cases, and the contracts of Go's library over them: characters of any text, their cases, blanks, the Builder's WriteRune. -/
import Derived.Test.YthanbbflemkomaaDoorCHelp
import Derived.Test.YthanbbflemkomaaDoorPcs
namespace Go.Proofs.YthanbbflemkomaaDoor
open Go.RowKit U8
open Go.Lib hiding intOf

theorem caseVar_below {g : Nat} {T : Array CaseRow} {w w' : World} (h : CaseVar g T w) (hb : Below w.heap.size w w') : CaseVar g T w' := by
  obtain ⟨R, oR, cap, h0, hT⟩ := h
  have c : ∀ {p : Addr} {v : Value}, w.cell? p = some v → w'.cell? p = some v := fun {p v} h => (hb.cell (World.block_lt_of_cell? w _ h)).trans h
  refine ⟨R, oR, cap, c h0, fun i hi => ?_⟩
  obtain ⟨h1, h2, h3, h4, h5⟩ := hT i hi
  exact ⟨c h1, c h2, c h3, c h4, c h5⟩
/-- The tables lie as their initialisers lay them. -/
structure Ut (w : World) : Prop where
  u8 : Utf8Tabs 3 4 w
  ws : Lib.WhiteTab 8 w
  pr : Lib.TabIs Tryd.prog w "unicode.properties" .u8 Lib.propertiesTab
  up : RVar 7 upperT w
  ca : CaseVar 9 caseA w
theorem Ut.below {w w' : World} (h : Ut w) (hb : Below w.heap.size w w') : Ut w' :=
  ⟨Utf8Tabs_below h.u8 hb, WhiteTab_below h.ws hb, TabIs_below (P := Tryd.prog) (g := 0) (by kernel_rfl) h.pr hb, RVar_below h.up hb, caseVar_below h.ca hb⟩
def I32 (r : Int) : Prop := -2147483648 ≤ r ∧ r ≤ 2147483647
theorem wrap32_i32 (z : Int) : I32 (wrap32 z) := by unfold I32 wrap32; omega
theorem toW_i32 {T : Array CaseRow} {c : Nat} {r : Int} (h : I32 r) : I32 (toW T c r) := by
  unfold toW
  split
  · exact wrap32_i32 _
  · exact h
theorem tu_i32 {r : Int} (h : I32 r) : I32 (toUpperU r) := by
  rw [← toUpperW_caseA]
  unfold Lib.toUpperW
  split
  · unfold I32 at h ⊢; split <;> omega
  · exact toW_i32 h
theorem tl_i32 {r : Int} (h : I32 r) : I32 (toLowerU r) := by
  rw [← toLowerW_caseA]
  unfold Lib.toLowerW
  split
  · unfold I32 at h ⊢; split <;> omega
  · exact toW_i32 h
theorem below_drawn {w w' : World} (h : ∃ q, w' = w.drewN q) : Below w.heap.size w w' := by
  obtain ⟨q, rfl⟩ := h
  have hb := Below.refl w.heap.size w
  exact ⟨hb.os, hb.tape, hb.output, hb.size, hb.block⟩
theorem dec_list (a rest : List UInt8) (r : Nat) (w : World) (ha : a ≠ []) (hd : decodeL (a ++ rest) = (r, a.length)) (hT : Ut w) :
    Calls Tryd.prog 66 #[.string (txt (a ++ rest))] w fun e w' => e = .returned (.tuple #[.int .i32 r, .int .i64 a.length]) ∧ Below w.heap.size w w' := by
  have := Tryd.utf8_DecodeRuneInString (txt (a ++ rest)) w hT.u8
  have e : decodeGo (txt (a ++ rest)) = (r, a.length) := by
    have hl : 0 < a.length := List.length_pos_iff.2 ha
    unfold decodeGo
    rw [if_neg (by rw [txt_size, List.length_append]; omega)]
    exact hd
  rw [e] at this
  exact this
theorem size_pos (a rest : List UInt8) (ha : a ≠ []) : 0 < (txt (a ++ rest)).size := by
  have hl : 0 < a.length := List.length_pos_iff.2 ha
  rw [txt_size, List.length_append]; omega
theorem part_le (a rest : List UInt8) : a.length ≤ (txt (a ++ rest)).size := by rw [txt_size, List.length_append]; omega
theorem up_is (r : Int) (b : Bool) (w : World) (hr : I32 r) (hb : isUpperU r = b) (hT : Ut w) :
    Calls Tryd.prog 74 #[.int .i32 r] w fun e w' => e = .returned (.bool b) ∧ Below w.heap.size w w' := hb ▸ Tryd.unicode_IsUpper_all r w hr.1 hr.2 hT.pr hT.up
theorem toup_is (r : Int) (w : World) (hT : Ut w) :
    Calls Tryd.prog 67 #[.int .i32 r] w fun e w' => e = .returned (.int .i32 (toUpperU r)) ∧ Below w.heap.size w w' :=
  (Tryd.unicode_ToUpper_laid r w hT.ca).mono fun _ _ h => ⟨h.1, below_drawn h.2⟩
theorem tolo_is (r : Int) (w : World) (hT : Ut w) :
    Calls Tryd.prog 75 #[.int .i32 r] w fun e w' => e = .returned (.int .i32 (toLowerU r)) ∧ Below w.heap.size w w' :=
  (Tryd.unicode_ToLower_laid r w hT.ca).mono fun _ _ h => ⟨h.1, below_drawn h.2⟩
/-- A connector: a hyphen, an underscore, a blank. -/
def conn (r : Int) : Bool := r == 45 || (r == 95 || isSpaceZ r)
theorem conn_is (r : Int) (b : Bool) (w : World) (hr : I32 r) (hb : conn r = b) (hT : Ut w) :
    Calls Tryd.prog 83 #[.int .i32 r] w fun e w' => e = .returned (.bool b) ∧ Below w.heap.size w w' := by
  have hbr := Below.refl w.heap.size w
  have C := Lib.hid (Tryd.unicode_IsSpace_any r w hr.1 hr.2 hT.ws)
  by_cases h45 : r = 45
  · subst h45
    have HF : Hid (b = true) := hb.symm
    clear hb C
    go_enter Tryd.func83, Tryd.ntmps83
    go_wp2
    go_ret
    exact ⟨by rw [HF.out]; rfl, hbr⟩
  by_cases h95 : r = 95
  · subst h95
    have HF : Hid (b = true) := hb.symm
    clear hb C h45
    go_enter Tryd.func83, Tryd.ntmps83
    go_wp2
    go_ret
    exact ⟨by rw [HF.out]; rfl, hbr⟩
  have e45 : (r == 45) = false := beq_eq_false_iff_ne.2 h45
  have e95 : (r == 95) = false := beq_eq_false_iff_ne.2 h95
  have hs : isSpaceZ r = b := by rw [← hb]; unfold conn; rw [e45, e95]; rfl
  rw [hs] at C
  clear hb hs h45 h95
  go_enter Tryd.func83, Tryd.ntmps83
  go_wp2_with fail
  refine C.out.mono ?_
  rintro e w1 ⟨rfl, hb1⟩
  go_wp2
  go_ret
  exact ⟨rfl, hb1⟩
theorem bld_fresh (B : Nat) (W : World) (hB : B ≤ W.heap.size) : Bld B W.heap.size [] (W.alloc (.cells #[.pointer none, .slice none 0 0] 53)) :=
  .inl ⟨hB, .slice none 0 0, heap_alloc_new W _, World.ownsRowF_nil _ _ _ _, by simp [Value.ownBlock]⟩
/-- WriteRune of any character. -/
theorem bld_any (B b : Nat) (l : List UInt8) (r : Int) (w : World) (h : Bld B b l w) (hr : I32 r) (hl : l.length + 4 ≤ 140737488355328) (hB : B ≤ w.heap.size) :
    Calls Tryd.prog 68 #[.pointer (some ⟨b, 0, none⟩), .int .i32 r] w fun e w' => (∃ n : Int, e = .returned (.tuple #[.int .i64 n, .nilIface])) ∧ Bld B b (l ++ encodeRune r) w' ∧ Below B w w' := by
  refine (Tryd.Builder_WriteRune_k B b (byteCells l) r hr.1 hr.2 w h (by rw [byteCells_length]; exact hl) hB).mono ?_
  rintro e w' ⟨rfl, h1, h2, h3⟩
  refine ⟨⟨_, rfl⟩, ?_, h2⟩
  unfold Bld
  rw [byteCells_app, show byteCells (encodeRune r) = runeCells r from byteCells_encodeRune r]
  exact .inr h1
theorem encR_le (r : Int) : (encodeRune r).length ≤ 4 := by have := (runeCells_le r).2; rw [runeCells_length] at this; exact this

/-! ### the plain function -/
/-- What toCamelCase writes behind the first character that is no connector: r0 is the character in hand, u whether the word's first character is a capital. -/
def xC (u : Bool) (r0 : Int) : List Nat → List UInt8
  | [] => encodeRune r0
  | r :: rs =>
    if conn r then (if conn r0 then encodeRune r0 ++ xC u r rs else if u then (if isUpperU r then encodeRune r0 ++ xC true (toLowerU r) rs else encodeRune r0 ++ xC false r rs) else encodeRune r0 ++ xC false r rs)
    else if conn r0 then xC (isUpperU r) (toUpperU r) rs
    else if u then (if isUpperU r then encodeRune r0 ++ xC true (toLowerU r) rs else encodeRune r0 ++ xC false r rs)
    else encodeRune r0 ++ xC false r rs
def xB (u : Bool) (r0 : Int) : List Nat → List UInt8
  | [] => if conn r0 then [] else encodeRune r0
  | r :: rs => xC u r0 (r :: rs)
def cvt (big : Bool) (r : Int) : Int := if big then toUpperU r else toLowerU r
def xA (big : Bool) : List Nat → List UInt8
  | [] => []
  | r :: rs => if conn r then encodeRune r ++ xA big rs else xB (isUpperU r) (cvt big r) rs
theorem xC_len : ∀ (rs : List Nat) (u : Bool) (r0 : Int), (xC u r0 rs).length ≤ 4 * rs.length + 4
  | [], u, r0 => by have := encR_le r0; simp [xC]; omega
  | r :: rs, u, r0 => by
    have h0 := encR_le r0
    have h1 := xC_len rs u r
    have h2 := xC_len rs true (toLowerU r)
    have h3 := xC_len rs false r
    have h4 := xC_len rs (isUpperU r) (toUpperU r)
    unfold xC
    rw [List.length_cons]
    repeat' split
    all_goals (try rw [List.length_append]); omega
theorem xB_len (rs : List Nat) (u : Bool) (r0 : Int) : (xB u r0 rs).length ≤ 4 * rs.length + 4 := by
  cases rs with
  | nil =>
    have := encR_le r0
    show (if conn r0 = true then [] else encodeRune r0).length ≤ _
    by_cases h : conn r0 = true
    · rw [if_pos h]; simp
    · rw [if_neg h]; simp; omega
  | cons r rs => exact xC_len _ _ _
theorem xA_len (big : Bool) : ∀ rs : List Nat, (xA big rs).length ≤ 4 * rs.length
  | [] => by simp [xA]
  | r :: rs => by
    have h0 := encR_le r
    have h1 := xA_len big rs
    have h2 := xB_len rs (isUpperU r) (cvt big r)
    unfold xA
    rw [List.length_cons]
    split
    · rw [List.length_append]; omega
    · omega

theorem xA_conn {big : Bool} {r : Nat} {rs : List Nat} (h : conn r = true) : xA big (r :: rs) = encodeRune r ++ xA big rs := by rw [xA, if_pos h]
theorem xA_not {big : Bool} {r : Nat} {rs : List Nat} (h : conn r = false) : xA big (r :: rs) = xB (isUpperU r) (cvt big r) rs := by rw [xA, if_neg (by simp [h])]
theorem xC_cc {u : Bool} {c : Int} {r : Nat} {rs : List Nat} (h : conn r = true) (h2 : conn c = true) : xC u c (r :: rs) = encodeRune c ++ xC u r rs := by rw [xC, if_pos h, if_pos h2]
theorem xC_nc {u : Bool} {c : Int} {r : Nat} {rs : List Nat} (h : conn r = false) (h2 : conn c = true) : xC u c (r :: rs) = xC (isUpperU r) (toUpperU r) rs := by rw [xC, if_neg (by simp [h]), if_pos h2]
theorem xC_up {c : Int} {r : Nat} {rs : List Nat} (h2 : conn c = false) (h : isUpperU r = true) : xC true c (r :: rs) = encodeRune c ++ xC true (toLowerU r) rs := by
  rw [xC]; cases conn (r : Int) <;> simp [h2, h]
theorem xC_nu {c : Int} {r : Nat} {rs : List Nat} (h2 : conn c = false) (h : isUpperU r = false) : xC true c (r :: rs) = encodeRune c ++ xC false r rs := by
  rw [xC]; cases conn (r : Int) <;> simp [h2, h]
theorem xC_no {c : Int} {r : Nat} {rs : List Nat} (h2 : conn c = false) : xC false c (r :: rs) = encodeRune c ++ xC false r rs := by
  rw [xC]; cases conn (r : Int) <;> simp [h2]
theorem tocvt (B : Bool) (h : true = B) (r : Int) (w : World) (hT : Ut w) :
    Calls Tryd.prog 67 #[.int .i32 r] w fun e w' => e = .returned (.int .i32 (cvt B r)) ∧ Below w.heap.size w w' := by subst h; exact toup_is r w hT
theorem locvt (B : Bool) (h : false = B) (r : Int) (w : World) (hT : Ut w) :
    Calls Tryd.prog 75 #[.int .i32 r] w fun e w' => e = .returned (.int .i32 (cvt B r)) ∧ Below w.heap.size w w' := by subst h; exact tolo_is r w hT
theorem cvt_i32 {big : Bool} {r : Int} (h : I32 r) : I32 (cvt big r) := by cases big; exact tl_i32 h; exact tu_i32 h

end Go.Proofs.YthanbbflemkomaaDoor
