/- The names of variables behind a dollar sign: isEnvNameRune, parseEnvName. impl's getenv: a variable's value out of one pair. parseEnvName at a name, bare or between braces. parseEnvName at a name, bare or between braces: its walk. -/
import Derived.Test.YthekblmkcfkboaaDoorWAsg
import Derived.Test.YthekblmkcfkboaaDoorWAsgL
namespace Go.Proofs.YthekblmkcfkboaaDoor
open Go.RowKit U8
open Go.Lib hiding intOf

/-- unicode's tables that a name reads. -/
structure Nt (w : World) : Prop where
  tab : Lib.TabIs Tryd.prog w "unicode.properties" .u8 Lib.propertiesTab
  letter : RVar 2 letterT w
  digit : RVar 3 digitT w
theorem Nt.below {w w' : World} (h : Nt w) (hb : Below w.heap.size w w') : Nt w' := ⟨TabIs_below (g := 1) (by kernel_rfl) h.tab hb, RVar_below h.letter hb, RVar_below h.digit hb⟩
def nameR (r : Nat) : Bool := isLetterU (r : Int) || isDigitU (r : Int) || r == 95
set_option maxHeartbeats 800000 in
theorem isName_any (r : Nat) (hr : r ≤ 1114111) (w : World) (hN : Nt w) : Calls Tryd.prog 38 #[.int .i32 r] w fun e w' => e = .returned (.bool (nameR r)) ∧ Below w.heap.size w w' := by
  have CL := Lib.hid (Tryd.unicode_IsLetter_all (r : Int) w (by omega) (by omega) hN.tab hN.letter)
  have CD := Lib.hid fun W (h : Below w.heap.size w W) => Tryd.unicode_IsDigit_all (r : Int) W (by omega) (by omega) (RVar_below hN.digit h)
  obtain ⟨L, hL⟩ : ∃ L, isLetterU (r : Int) = L := ⟨_, rfl⟩
  obtain ⟨D, hD⟩ : ∃ D, isDigitU (r : Int) = D := ⟨_, rfl⟩
  have hS : nameR r = (L || D || r == 95) := by unfold nameR; rw [hL, hD]
  rw [hS]
  rw [hL] at CL
  rw [hD] at CD
  clear hL hD hS hN
  go_enter Tryd.func38, Tryd.ntmps38
  go_wp2_with fail
  refine CL.out.mono ?_
  rintro e w1 ⟨rfl, hb1⟩
  cases L with
  | true =>
    go_wp2
    go_ret
    exact ⟨by simp, hb1⟩
  | false =>
    go_wp2_with fail
    refine (CD.out w1 hb1).mono ?_
    rintro e w2 ⟨rfl, hb2⟩
    have hb3 := below_own hb2 hb1
    cases D with
    | true =>
      go_wp2
      go_ret
      exact ⟨by simp, hb3⟩
    | false =>
      by_cases h95 : r = 95
      · subst h95
        go_wp2
        go_ret
        exact ⟨by simp, hb3⟩
      · have e95 : ((r : Int) == 95) = false := by simp; omega
        have e95n : (r == 95) = false := beq_eq_false_iff_ne.2 h95
        clear h95
        go_wp2
        go_ret
        exact ⟨by simp [e95n], hb3⟩
set_option maxHeartbeats 800000 in
theorem pred_one (w : World) (hN : Nt w) : PredGrows Tryd.prog 37 #[] (fun r => !nameR r) w := by
  intro W x hx hb
  have CN := Lib.hid (isName_any x hx W (hN.below hb))
  show Calls Tryd.prog 37 #[.int .i32 x] W _
  go_enter Tryd.func37, Tryd.ntmps37
  go_wp2_with fail
  refine CN.out.mono ?_
  rintro e w1 ⟨rfl, hb1⟩
  go_wp2
  go_ret
  exact ⟨rfl, hb1⟩
set_option maxHeartbeats 800000 in
theorem pred_two (w : World) (hN : Nt w) : PredGrows Tryd.prog 39 #[] (fun r => !nameR r) w := by
  intro W x hx hb
  have CN := Lib.hid (isName_any x hx W (hN.below hb))
  show Calls Tryd.prog 39 #[.int .i32 x] W _
  go_enter Tryd.func39, Tryd.ntmps39
  go_wp2_with fail
  refine CN.out.mono ?_
  rintro e w1 ⟨rfl, hb1⟩
  go_wp2
  go_ret
  exact ⟨rfl, hb1⟩
/-- Where a name ends. -/
def endN (s : List UInt8) : Int := Lib.idxFunc (fun r => !nameR r) true (txt s)
theorem idx_one (s : List UInt8) (w : World) (hN : Nt w) : Calls Tryd.prog 36 #[.string (txt s), .func (.func 37) #[] #[]] w fun e w' => e = .returned (.int .i64 (endN s)) ∧ Below w.heap.size w w' :=
  Tryd.strings_IndexFunc_grows 37 #[] (fun args w => by kernel_rfl) _ (txt s) w (pred_one w hN)
theorem idx_two (s : List UInt8) (w : World) (hN : Nt w) : Calls Tryd.prog 36 #[.string (txt s), .func (.func 39) #[] #[]] w fun e w' => e = .returned (.int .i64 (endN s)) ∧ Below w.heap.size w w' :=
  Tryd.strings_IndexFunc_grows 39 #[] (fun args w => by kernel_rfl) _ (txt s) w (pred_two w hN)

set_option maxHeartbeats 1600000 in
theorem getenv_any (bx vb cap : Nat) (name key val : List UInt8) (w : World) (hc : w.cell? ⟨bx, 2, none⟩ = some (.slice (some ⟨vb, 0, none⟩) 1 cap)) (h0 : w.cell? ⟨vb, 0, none⟩ = some (.string (txt key))) (h1 : w.cell? ⟨vb, 1, none⟩ = some (.string (txt val))) :
    Calls Tryd.prog 28 #[.string (txt name), .pointer (some ⟨bx, 0, none⟩)] w fun e w' => e = .returned (.string (txt (if key = name then val else []))) ∧ Below w.heap.size w w' := by
  obtain ⟨V, hV⟩ : ∃ V, (if key = name then val else []) = V := ⟨_, rfl⟩
  rw [hV]
  have HV := Lib.hid hV
  have H0 := Lib.hid h0
  have H1 := Lib.hid h1
  clear hV
  go_enter Tryd.func28, Tryd.ntmps28
  go_wp2
  go_loopg [4, 6, 10] 3 (fun gk v4 v6 v10 wr => (v10 = .int .i64 0 ∧ v4 = .string (txt []) ∧ 1 < gk ∧ wr = w) ∨ (v10 = .int .i64 1 ∧ v4 = .string (txt V) ∧ 0 < gk ∧ Hid (Below w.heap.size w wr)))
  case atStart => exact .inl ⟨rfl, rfl, by omega, rfl⟩
  case round =>
    rcases hrel with ⟨rfl, rfl, hg, hwr⟩ | ⟨rfl, rfl, hg, HB⟩
    · obtain rfl := hwr.symm
      obtain ⟨gk, rfl⟩ : ∃ m, gk = m + 1 := ⟨gk - 1, by omega⟩
      have hb1 : Below w.heap.size w (w.alloc (.cells #[.string (txt key), .string (txt val)] 39)) := (Below.refl _ _).alloc (Nat.le_refl _) _
      have HB1 := Lib.hid hb1
      clear hb1
      by_cases hk : key = name
      · subst hk
        have HV2 : Hid (V = val) := by show _ = _; rw [← HV.out, if_pos rfl]
        have he : ((txt key).toList == (txt key).toList) = true := by simp
        go_wp2
        go_roundg gk
        case rel => exact .inr ⟨rfl, by rw [HV2.out], by omega, HB1.out⟩
        case measure => omega
      · have HV2 : Hid (V = []) := by show _ = _; rw [← HV.out, if_neg hk]
        have he : ((txt key).toList == (txt name).toList) = false := by rw [txt_toList, txt_toList]; exact beq_eq_false_iff_ne.2 hk
        clear hk
        go_wp2
        go_roundg gk
        case rel => exact .inr ⟨rfl, by rw [HV2.out], by omega, HB1.out⟩
        case measure => omega
    · go_wp2
      go_ret
      exact ⟨rfl, HB.out⟩

theorem name_table : ((List.range 128).all fun n => (!(decide (97 ≤ n ∧ n ≤ 122) || decide (65 ≤ n ∧ n ≤ 90) || decide (48 ≤ n ∧ n ≤ 57))) || nameR n) = true := by kernel_rfl
theorem name_sim {b : UInt8} (h : simB b = true) : nameR b.toNat = true ∧ b.toNat < 128 := by
  have hlt : b.toNat < 128 := by
    unfold simB letterB at h
    rw [Bool.or_eq_true, decide_eq_true_eq, decide_eq_true_eq] at h
    omega
  have h1 := List.all_eq_true.1 name_table b.toNat (List.mem_range.2 hlt)
  unfold simB letterB at h
  rw [Bool.or_eq_true, decide_eq_true_eq, decide_eq_true_eq] at h
  rw [Bool.or_eq_true] at h1
  rcases h1 with h1 | h1
  · exfalso
    rw [Bool.not_eq_true'] at h1
    simp only [Bool.or_eq_false_iff, decide_eq_false_iff_not] at h1
    omega
  · exact ⟨h1, hlt⟩
theorem name_no : nameR 32 = false ∧ nameR 39 = false ∧ nameR 125 = false := ⟨by kernel_rfl, by kernel_rfl, by kernel_rfl⟩
theorem decode_byte (pre : List UInt8) (b : UInt8) (t : List UInt8) (hb : b.toNat < 128) : Utf8.decode (txt (pre ++ b :: t)) pre.length = (b.toNat, 1) := by
  rw [← decodeL_drop, txt_list, List.drop_left, decodeL_N]
  simp [decodeN, hb]
theorem idx_from (p : Nat → Bool) : ∀ (nm pre t : List UInt8) (f : Nat), (∀ b ∈ nm, p b.toNat = false ∧ b.toNat < 128) → nm.length + t.length ≤ f →
    (t = [] → Lib.idxFuncFrom p true (txt (pre ++ (nm ++ t))) f pre.length = -1) ∧ (∀ c t', t = c :: t' → c.toNat < 128 → p c.toNat = true → Lib.idxFuncFrom p true (txt (pre ++ (nm ++ t))) f pre.length = (pre.length + nm.length : Nat))
  | [], pre, t, f, _, hf => by
    refine ⟨fun ht => ?_, fun c t' ht hc hp => ?_⟩
    · subst ht
      exact Lib.idxFuncFrom_end _ _ _ _ _ (by rw [txt_size]; simp)
    · subst ht
      rw [List.length_cons] at hf
      obtain ⟨f, rfl⟩ : ∃ g, f = g + 1 := ⟨f - 1, by omega⟩
      unfold Lib.idxFuncFrom
      rw [if_pos (by rw [txt_size]; simp), List.nil_append, decode_byte pre c t' hc, if_pos hp]
      simp
  | b :: nm, pre, t, f, h, hf => by
    have hb := h b (by simp)
    rw [List.length_cons] at hf
    obtain ⟨f, rfl⟩ : ∃ g, f = g + 1 := ⟨f - 1, by omega⟩
    have ih := idx_from p nm (pre ++ [b]) t f (fun x hx => h x (by simp [hx])) (by omega)
    have e : pre ++ [b] ++ (nm ++ t) = pre ++ ((b :: nm) ++ t) := by simp
    have el : (pre ++ [b]).length = pre.length + 1 := by simp
    rw [e, el] at ih
    have hstep : Lib.idxFuncFrom p true (txt (pre ++ ((b :: nm) ++ t))) (f + 1) pre.length = Lib.idxFuncFrom p true (txt (pre ++ ((b :: nm) ++ t))) f (pre.length + 1) := by
      rw [Lib.idxFuncFrom]
      rw [if_pos (by rw [txt_size]; simp)]
      have hd : Utf8.decode (txt (pre ++ ((b :: nm) ++ t))) pre.length = (b.toNat, 1) := decode_byte pre b (nm ++ t) hb.2
      rw [hd]
      rw [if_neg (by rw [hb.1]; decide)]
    rw [hstep]
    refine ⟨ih.1, fun c t' ht hc hp => ?_⟩
    rw [ih.2 c t' ht hc hp, List.length_cons]
    congr 1
    omega
theorem endN_end (nm : List UInt8) (h : ∀ b ∈ nm, simB b = true) : endN nm = -1 := by
  have := (idx_from (fun r => !nameR r) nm [] [] (txt nm).size (fun b hb => by have := name_sim (h b hb); exact ⟨by rw [this.1]; rfl, this.2⟩) (by rw [txt_size]; simp)).1 rfl
  unfold endN Lib.idxFunc
  simpa using this
theorem endN_at (nm : List UInt8) (c : UInt8) (t : List UInt8) (h : ∀ b ∈ nm, simB b = true) (hc : c.toNat < 128) (hn : nameR c.toNat = false) : endN (nm ++ c :: t) = nm.length := by
  have := (idx_from (fun r => !nameR r) nm [] (c :: t) (txt (nm ++ c :: t)).size (fun b hb => by have := name_sim (h b hb); exact ⟨by rw [this.1]; rfl, this.2⟩) (by rw [txt_size]; simp)).2 c t rfl hc (by rw [hn]; rfl)
  unfold endN Lib.idxFunc
  simpa using this

theorem slice_tail (x : List UInt8) (k : Nat) (hk : k ≤ x.length) (W : World) : (Instr.slice 9 (.string (txt x)) (some (.int .i64 k)) none none).run Tryd.prog W = .ok (.string (txt (x.drop k))) W := by
  have hts := txt_size x
  rw [run_slice_string_l W 9 (txt x) Tryd.underlying9 .i64 k (by omega) (by omega), Int.toNat_natCast, txt_extract, hts]
  rw [List.take_of_length_le (by simp)]
/-- What a name stands ahead of. -/
def Stop (t : List UInt8) : Prop := t = [] ∨ ∃ c t', t = c :: t' ∧ c.toNat < 128 ∧ nameR c.toNat = false
theorem endN_stop (nm t : List UInt8) (h : ∀ b ∈ nm, simB b = true) (ht : Stop t) : (endN (nm ++ t) = -1 ∧ t = []) ∨ endN (nm ++ t) = nm.length := by
  rcases ht with rfl | ⟨c, t', rfl, hc, hn⟩
  · rw [List.append_nil]; exact .inl ⟨endN_end nm h, rfl⟩
  · exact .inr (endN_at nm c t' h hc hn)
theorem sim_no {b : UInt8} (h : simB b = true) : b ≠ 123 := by
  rintro rfl
  exact absurd h (by decide)
set_option maxHeartbeats 1600000 in
theorem pen_bare (nm t : List UInt8) (h : ∀ b ∈ nm, simB b = true) (h0 : nm ≠ []) (ht : Stop t) (hl : (nm ++ t).length ≤ 100000) (w : World) (hN : Nt w) :
    Calls Tryd.prog 33 #[.string (txt (nm ++ t))] w fun e w' => e = .returned (.tuple #[.string (txt nm), .int .i64 nm.length, .bool true]) ∧ Below w.heap.size w w' := by
  have hlen : 0 < nm.length := List.length_pos_iff.2 h0
  have CH := Lib.hid (Tryd.strings_HasPrefix (txt (nm ++ t)) ⟨#[123]⟩ w)
  have hp : Lib.hasPrefix (txt (nm ++ t)).data.toList [(123 : UInt8)] = false := by
    cases nm with
    | nil => exact absurd rfl h0
    | cons b nm =>
      have hb := sim_no (h b (by simp))
      unfold Lib.hasPrefix
      rw [txt_list, List.cons_append]
      simp [List.isPrefixOf]
      exact fun e => hb e.symm
  have hpe : Lib.hasPrefix (txt (nm ++ t)).data.toList (ByteArray.mk #[123]).data.toList = false := hp
  rw [hpe] at CH
  have CI := Lib.hid fun W (hb : Below w.heap.size w W) => idx_two (nm ++ t) W (hN.below hb)
  have hE := endN_stop nm t h ht
  have hs := txt_size (nm ++ t)
  have HAP := Lib.hid (@List.length_append _ nm t)
  have HT : Hid ((nm ++ t).take nm.length = nm) := List.take_left
  generalize endN (nm ++ t) = E at *
  have hsl := fun W => slice_head (nm ++ t) nm.length (by have := HAP.out; omega) W
  rw [HT.out] at hsl
  generalize txt (nm ++ t) = T at *
  have HB0 : Hid (Below w.heap.size w w) := Below.refl _ _
  clear hp hpe h ht h0 hN
  go_enter Tryd.func33, Tryd.ntmps33
  go_wp2_with fail
  refine CH.out.mono ?_
  rintro e wx ⟨rfl, hwx⟩
  obtain rfl := hwx.symm
  go_wp2_with fail
  refine (CI.out _ HB0.out).mono ?_
  rintro e w1 ⟨rfl, hb1⟩
  rcases hE with ⟨rfl, rfl⟩ | rfl
  · have hs2 : (T.size : Int) = (nm.length : Int) := by rw [List.append_nil] at hs; omega
    have e0 : ((nm.length : Int) == 0) = false := beq_eq_false_iff_ne.2 (by omega)
    clear hs hl
    go_wp2
    go_ret3
    exact ⟨rfl, hb1⟩
  · have e0 : ((nm.length : Int) == 0) = false := beq_eq_false_iff_ne.2 (by omega)
    go_wp2
    go_ret3
    exact ⟨rfl, hb1⟩
set_option maxHeartbeats 1600000 in
theorem pen_brace (nm t : List UInt8) (h : ∀ b ∈ nm, simB b = true) (hl : nm.length + t.length ≤ 100000) (w : World) (hN : Nt w) :
    Calls Tryd.prog 33 #[.string (txt (123 :: nm ++ 125 :: t))] w fun e w' => e = .returned (.tuple #[.string (txt nm), .int .i64 ((nm.length : Int) + 2), .bool true]) ∧ Below w.heap.size w w' := by
  obtain ⟨x, hx⟩ : ∃ x, 123 :: nm ++ 125 :: t = x := ⟨_, rfl⟩
  rw [hx]
  have hxl : x.length = nm.length + t.length + 2 := by rw [← hx]; simp; omega
  have CH := Lib.hid (Tryd.strings_HasPrefix (txt x) ⟨#[123]⟩ w)
  have hpe : Lib.hasPrefix (txt x).data.toList (ByteArray.mk #[123]).data.toList = true := by
    show Lib.hasPrefix (txt x).data.toList [(123 : UInt8)] = true
    unfold Lib.hasPrefix
    rw [txt_list, ← hx]
    simp [List.isPrefixOf]
  rw [hpe] at CH
  have hsl1 : ∀ W, (Instr.slice 9 (.string (txt x)) (some (.int .i64 1)) none none).run Tryd.prog W = .ok (.string (txt (x.drop 1))) W := fun W => slice_tail x 1 (by omega) W
  have hd : x.drop 1 = nm ++ 125 :: t := by rw [← hx]; rfl
  rw [hd] at hsl1
  have CI := Lib.hid fun W (hb : Below w.heap.size w W) => idx_one (nm ++ 125 :: t) W (hN.below hb)
  rw [endN_at nm 125 t h (by decide) name_no.2.2] at CI
  have hby : x[nm.length + 1]? = some 125 := by rw [← hx]; simp
  have hon : 1 + (nm.length : Int) = ((nm.length + 1 : Nat) : Int) := by omega
  have hrb : ∀ W, (Instr.index 9 (.string (txt x)) (.int .i64 (1 + (nm.length : Int)))).run Tryd.prog W = .ok (.int .u8 125) W := fun W => (by rw [hon]; exact run_byte x (nm.length + 1) 125 hby W)
  have hs := txt_size x
  have hsl2 : ∀ W, (Instr.slice 9 (.string (txt x)) (some (.int .i64 1)) (some (.int .i64 (1 + (nm.length : Int)))) none).run Tryd.prog W = .ok (.string (txt nm)) W := fun W => by
    have h2 := run_slice_string (P := Tryd.prog) W 9 (txt x) .i64 .i64 1 (1 + (nm.length : Int)) Tryd.underlying9 (by omega) (by omega) (by omega)
    rw [h2, show (1 + (nm.length : Int)).toNat = nm.length + 1 by omega]
    have : (txt x).extract (1 : Int).toNat (nm.length + 1) = txt nm := by
      show (txt x).extract 1 (nm.length + 1) = _
      rw [txt_extract, List.drop_take, hd]
      congr 1
      simp
    rw [this]
  have HB0 : Hid (Below w.heap.size w w) := Below.refl _ _
  generalize txt (nm ++ 125 :: t) = T1 at *
  generalize txt x = T at *
  clear hpe h hx hN hby hd hon
  go_enter Tryd.func33, Tryd.ntmps33
  go_wp2_with fail
  refine CH.out.mono ?_
  rintro e wx ⟨rfl, hwx⟩
  obtain rfl := hwx.symm
  go_wp2_with fail
  refine (CI.out _ HB0.out).mono ?_
  rintro e w1 ⟨rfl, hb1⟩
  go_wp2
  go_ret3
  exact ⟨rfl, hb1⟩

end Go.Proofs.YthekblmkcfkboaaDoor
