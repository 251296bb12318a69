/- The lexer's tests of characters. No condition. -/
import Derived.Test.YtdfhidnhkeapbaaGreatDoorLxFns
namespace Go.Proofs.YtdfhidnhkeapbaaGreatDoor
open Go.RowKit U8
open Go.Lib hiding intOf

theorem isEOL_nat (r : Nat) (w : World) : Calls Tryz.prog 117 #[.int .i32 r] w fun e w' => e = .returned (.bool (eolR r)) ∧ w' = w := by
  by_cases h0 : r = 10
  · subst h0
    go_enter Tryz.func117, Tryz.ntmps117
    go_wp2
    go_ret
    exact ⟨rfl, rfl⟩
  by_cases h1 : r = 13
  · subst h1
    go_enter Tryz.func117, Tryz.ntmps117
    go_wp2
    go_ret
    exact ⟨rfl, rfl⟩
  have e0 : ((r : Int) == 10) = false := beq_eq_false_iff_ne.2 (by omega)
  have e1 : ((r : Int) == 13) = false := beq_eq_false_iff_ne.2 (by omega)
  have ef : (eolR r) = false := by unfold eolR; simp [h0, h1]
  rw [ef]
  clear ef h0 h1
  go_enter Tryz.func117, Tryz.ntmps117
  go_wp2
  go_ret
  exact ⟨rfl, rfl⟩
theorem isEOL_eof (w : World) : Calls Tryz.prog 117 #[.int .i32 (-1)] w fun e w' => e = .returned (.bool false) ∧ w' = w := by
  go_enter Tryz.func117, Tryz.ntmps117
  go_wp2
  go_ret
  exact ⟨rfl, rfl⟩
theorem isCmt_nat (r : Nat) (w : World) : Calls Tryz.prog 119 #[.int .i32 r] w fun e w' => e = .returned (.bool (cmtR r)) ∧ w' = w := by
  by_cases h0 : r = 35
  · subst h0
    go_enter Tryz.func119, Tryz.ntmps119
    go_wp2
    go_ret
    exact ⟨rfl, rfl⟩
  by_cases h1 : r = 33
  · subst h1
    go_enter Tryz.func119, Tryz.ntmps119
    go_wp2
    go_ret
    exact ⟨rfl, rfl⟩
  have e0 : ((r : Int) == 35) = false := beq_eq_false_iff_ne.2 (by omega)
  have e1 : ((r : Int) == 33) = false := beq_eq_false_iff_ne.2 (by omega)
  have ef : (cmtR r) = false := by unfold cmtR; simp [h0, h1]
  rw [ef]
  clear ef h0 h1
  go_enter Tryz.func119, Tryz.ntmps119
  go_wp2
  go_ret
  exact ⟨rfl, rfl⟩
theorem isCmt_eof (w : World) : Calls Tryz.prog 119 #[.int .i32 (-1)] w fun e w' => e = .returned (.bool false) ∧ w' = w := by
  go_enter Tryz.func119, Tryz.ntmps119
  go_wp2
  go_ret
  exact ⟨rfl, rfl⟩
theorem isEsc_nat (r : Nat) (w : World) : Calls Tryz.prog 137 #[.int .i32 r] w fun e w' => e = .returned (.bool (r == 92)) ∧ w' = w := by
  by_cases h0 : r = 92
  · subst h0
    go_enter Tryz.func137, Tryz.ntmps137
    go_wp2
    go_ret
    exact ⟨rfl, rfl⟩
  have e0 : ((r : Int) == 92) = false := beq_eq_false_iff_ne.2 (by omega)
  have ef : (r == 92) = false := by simp [h0]
  rw [ef]
  clear ef h0
  go_enter Tryz.func137, Tryz.ntmps137
  go_wp2
  go_ret
  exact ⟨rfl, rfl⟩
theorem isEsc_eof (w : World) : Calls Tryz.prog 137 #[.int .i32 (-1)] w fun e w' => e = .returned (.bool false) ∧ w' = w := by
  go_enter Tryz.func137, Tryz.ntmps137
  go_wp2
  go_ret
  exact ⟨rfl, rfl⟩
theorem atUni_nat (r : Nat) (w : World) : Calls Tryz.prog 148 #[.int .i32 r] w fun e w' => e = .returned (.bool (r == 117)) ∧ w' = w := by
  by_cases h0 : r = 117
  · subst h0
    go_enter Tryz.func148, Tryz.ntmps148
    go_wp2
    go_ret
    exact ⟨rfl, rfl⟩
  have e0 : ((r : Int) == 117) = false := beq_eq_false_iff_ne.2 (by omega)
  have ef : (r == 117) = false := by simp [h0]
  rw [ef]
  clear ef h0
  go_enter Tryz.func148, Tryz.ntmps148
  go_wp2
  go_ret
  exact ⟨rfl, rfl⟩
theorem atUni_eof (w : World) : Calls Tryz.prog 148 #[.int .i32 (-1)] w fun e w' => e = .returned (.bool false) ∧ w' = w := by
  go_enter Tryz.func148, Tryz.ntmps148
  go_wp2
  go_ret
  exact ⟨rfl, rfl⟩
theorem isEOF_nat (r : Nat) (w : World) : Calls Tryz.prog 115 #[.int .i32 r] w fun e w' => e = .returned (.bool false) ∧ w' = w := by
  have e0 : ((r : Int) == -1) = false := beq_eq_false_iff_ne.2 (by omega)
  go_enter Tryz.func115, Tryz.ntmps115
  go_wp2
  go_ret
  exact ⟨rfl, rfl⟩
theorem isEOF_eof (w : World) : Calls Tryz.prog 115 #[.int .i32 (-1)] w fun e w' => e = .returned (.bool true) ∧ w' = w := by
  go_enter Tryz.func115, Tryz.ntmps115
  go_wp2
  go_ret
  exact ⟨rfl, rfl⟩
theorem isEnd_nat (r : Nat) (w : World) (hr : Sc r) : Calls Tryz.prog 140 #[.int .i32 r] w fun e w' => e = .returned (.bool (endR r)) ∧ Below w.heap.size w w' := by
  have cC := crune_any [32, 12, 9, 13, 10, 58, 61] r w hr (by decide)
  rw [has_end] at cC
  have CC : Hid (Calls Tryz.prog 136 #[.string ⟨#[32, 12, 9, 13, 10, 58, 61]⟩, .int .i32 r] w fun e w' => e = .returned (.bool (endR r)) ∧ Below w.heap.size w w') := cC
  clear cC hr
  go_enter Tryz.func140, Tryz.ntmps140
  go_wp2_with fail
  refine CC.out.mono ?_
  rintro e w1 ⟨rfl, hb⟩
  go_wp2
  go_ret
  exact ⟨rfl, hb⟩
theorem isEnd_eof (w : World) : Calls Tryz.prog 140 #[.int .i32 (-1)] w fun e w' => e = .returned (.bool false) ∧ w' = w := by
  go_enter Tryz.func140, Tryz.ntmps140
  go_wp2_with fail
  refine (crune_eof _ w).mono ?_
  rintro e w1 ⟨rfl, hw⟩
  obtain rfl := hw.symm
  go_wp2
  go_ret
  exact ⟨rfl, rfl⟩
theorem isEscd_nat (r : Nat) (w : World) (hr : Sc r) : Calls Tryz.prog 146 #[.int .i32 r] w fun e w' => e = .returned (.bool (escR r)) ∧ Below w.heap.size w w' := by
  have cC := crune_any [32, 58, 61, 102, 110, 114, 116] r w hr (by decide)
  rw [has_esc] at cC
  have CC : Hid (Calls Tryz.prog 136 #[.string ⟨#[32, 58, 61, 102, 110, 114, 116]⟩, .int .i32 r] w fun e w' => e = .returned (.bool (escR r)) ∧ Below w.heap.size w w') := cC
  clear cC hr
  go_enter Tryz.func146, Tryz.ntmps146
  go_wp2_with fail
  refine CC.out.mono ?_
  rintro e w1 ⟨rfl, hb⟩
  go_wp2
  go_ret
  exact ⟨rfl, hb⟩
theorem isEscd_eof (w : World) : Calls Tryz.prog 146 #[.int .i32 (-1)] w fun e w' => e = .returned (.bool false) ∧ w' = w := by
  go_enter Tryz.func146, Tryz.ntmps146
  go_wp2_with fail
  refine (crune_eof _ w).mono ?_
  rintro e w1 ⟨rfl, hw⟩
  obtain rfl := hw.symm
  go_wp2
  go_ret
  exact ⟨rfl, rfl⟩
theorem isWs_nat (r : Nat) (w : World) (hr : Sc r) : Calls Tryz.prog 121 #[.int .i32 r] w fun e w' => e = .returned (.bool (wsR r)) ∧ Below w.heap.size w w' := by
  have cC := crune_any [32, 12, 9] r w hr (by decide)
  rw [has_ws] at cC
  have CC : Hid (Calls Tryz.prog 136 #[.string ⟨#[32, 12, 9]⟩, .int .i32 r] w fun e w' => e = .returned (.bool (wsR r)) ∧ Below w.heap.size w w') := cC
  clear cC hr
  go_enter Tryz.func121, Tryz.ntmps121
  go_wp2_with fail
  refine CC.out.mono ?_
  rintro e w1 ⟨rfl, hb⟩
  go_wp2
  go_ret
  exact ⟨rfl, hb⟩
theorem isWs_eof (w : World) : Calls Tryz.prog 121 #[.int .i32 (-1)] w fun e w' => e = .returned (.bool false) ∧ w' = w := by
  go_enter Tryz.func121, Tryz.ntmps121
  go_wp2_with fail
  refine (crune_eof _ w).mono ?_
  rintro e w1 ⟨rfl, hw⟩
  obtain rfl := hw.symm
  go_wp2
  go_ret
  exact ⟨rfl, rfl⟩
theorem decEsc_nat (r : Nat) (w : World) : Calls Tryz.prog 147 #[.int .i32 r] w fun e w' => e = .returned (.int .i32 (decR r)) ∧ w' = w := by
  by_cases h0 : r = 102
  · subst h0
    go_enter Tryz.func147, Tryz.ntmps147
    go_wp2
    go_ret
    exact ⟨rfl, rfl⟩
  by_cases h1 : r = 110
  · subst h1
    go_enter Tryz.func147, Tryz.ntmps147
    go_wp2
    go_ret
    exact ⟨rfl, rfl⟩
  by_cases h2 : r = 114
  · subst h2
    go_enter Tryz.func147, Tryz.ntmps147
    go_wp2
    go_ret
    exact ⟨rfl, rfl⟩
  by_cases h3 : r = 116
  · subst h3
    go_enter Tryz.func147, Tryz.ntmps147
    go_wp2
    go_ret
    exact ⟨rfl, rfl⟩
  have e0 : ((r : Int) == 102) = false := beq_eq_false_iff_ne.2 (by omega)
  have e1 : ((r : Int) == 110) = false := beq_eq_false_iff_ne.2 (by omega)
  have e2 : ((r : Int) == 114) = false := beq_eq_false_iff_ne.2 (by omega)
  have e3 : ((r : Int) == 116) = false := beq_eq_false_iff_ne.2 (by omega)
  have ef : decR r = r := by unfold decR; rw [if_neg h0, if_neg h1, if_neg h2, if_neg h3]
  rw [ef]
  clear ef h0 h1 h2 h3
  go_enter Tryz.func147, Tryz.ntmps147
  go_wp2
  go_ret
  exact ⟨rfl, rfl⟩
/-- How peek ends. -/
def PeekP (w0 : World) (b : Nat) (s rest : List UInt8) (acc : List Nat) (its : List LI) (e : Ending) (w' : World) : Prop :=
  ∃ wd2, Lx w0 b s rest wd2 acc its w' ∧ ((rest = [] ∧ e = .returned (.int .i32 (-1))) ∨ ∃ (r : Nat) (rs : List Nat), rns rest = r :: rs ∧ Sc r ∧ e = .returned (.int .i32 r))
def sepS : List Nat → List Nat
  | [] => []
  | r :: t => if r == 58 || r == 61 then t else r :: t
theorem sepS_cons (r : Nat) (t : List Nat) : sepS (r :: t) = if (r == 58 || r == 61) = true then t else r :: t := rfl
theorem bvS_eq (rs : List Nat) : bvS rs = dropWs (sepS (dropWs rs)) := by
  unfold bvS sepS
  cases dropWs rs <;> rfl
def AcceptP (w0 : World) (b : Nat) (s rest : List UInt8) (acc : List Nat) (its : List LI) (e : Ending) (w' : World) : Prop :=
  ∃ (q : Bool) (rest2 : List UInt8) (wd2 : Nat), e = .returned (.bool q) ∧ Lx w0 b s rest2 wd2 acc its w' ∧ rns rest2 = sepS (rns rest)
set_option maxHeartbeats 1600000 in
theorem peek_any (w0 : World) (b : Nat) (s rest : List UInt8) (wd : Nat) (acc : List Nat) (its : List LI) (w : World) (h : Lx w0 b s rest wd acc its w) (hT : Tabs w0) :
    Calls Tryz.prog 154 #[.pointer (some ⟨b, 0, none⟩)] w (PeekP w0 b s rest acc its) := by
  have HL := Lib.hid h
  have HP := Lib.hid h.pre
  have C := Lib.hid (next_any w0 b s rest wd acc its w h hT)
  clear h
  go_enter Tryz.func154, Tryz.ntmps154
  go_wp2_with fail
  refine C.out.mono ?_
  rintro e w1 (⟨hr, rfl, h1⟩ | ⟨a, rest2, r, hr, ha, hsc, hrn, rfl, h1⟩)
  · subst hr
    have H1 := Lib.hid h1
    clear h1
    go_wp2_with fail
    refine (back_any w0 b s [] [] acc its w1 H1.out HP.out).mono ?_
    rintro e w3 ⟨rfl, h3⟩
    have H3 := Lib.hid h3
    clear h3
    go_wp2
    go_ret
    exact ⟨_, H3.out, .inl ⟨rfl, rfl⟩⟩
  · subst hr
    have H1 := Lib.hid h1
    have HRN := Lib.hid hrn
    clear h1 hrn
    go_wp2_with fail
    refine (back_any w0 b s a rest2 acc its w1 H1.out HP.out).mono ?_
    rintro e w3 ⟨rfl, h3⟩
    have H3 := Lib.hid h3
    clear h3
    go_wp2
    go_ret
    exact ⟨_, H3.out, .inr ⟨r, _, HRN.out, hsc, rfl⟩⟩
/-- accept of a colon or an equals sign. -/
theorem accept_any (w0 : World) (b : Nat) (s rest : List UInt8) (wd : Nat) (acc : List Nat) (its : List LI) (w : World) (h : Lx w0 b s rest wd acc its w) (hT : Tabs w0) :
    Calls Tryz.prog 150 #[.pointer (some ⟨b, 0, none⟩), .string ⟨#[58, 61]⟩] w (AcceptP w0 b s rest acc its) := by
  have HL := Lib.hid h
  have HP := Lib.hid h.pre
  have C := Lib.hid (next_any w0 b s rest wd acc its w h hT)
  clear h
  go_enter Tryz.func150, Tryz.ntmps150
  go_wp2_with fail
  refine C.out.mono ?_
  rintro e w1 (⟨hr, rfl, h1⟩ | ⟨a, rest2, r, hr, ha, hsc, hrn, rfl, h1⟩)
  · subst hr
    have H1 := Lib.hid h1
    clear h1
    go_wp2_with fail
    refine (crune_eof _ w1).mono ?_
    rintro e w2 ⟨rfl, hw⟩
    obtain rfl := hw.symm
    go_wp2_with fail
    refine (back_any w0 b s [] [] acc its w1 H1.out HP.out).mono ?_
    rintro e w3 ⟨rfl, h3⟩
    have H3 := Lib.hid h3
    clear h3
    go_wp2
    go_ret
    exact ⟨false, _, _, rfl, H3.out, rfl⟩
  · subst hr
    have H1 := Lib.hid h1
    have HRN := Lib.hid hrn
    have cC := crune_any [58, 61] r w1 hsc (by decide)
    rw [has_sep] at cC
    have CC : Hid (Calls Tryz.prog 136 #[.string ⟨#[58, 61]⟩, .int .i32 r] w1 fun e w' => e = .returned (.bool (r == 58 || r == 61)) ∧ Below w1.heap.size w1 w') := cC
    obtain ⟨q, hq⟩ : ∃ q, (r == 58 || r == 61) = q := ⟨_, rfl⟩
    rw [hq] at CC
    have HQ := Lib.hid hq
    clear h1 hrn cC hq ha
    go_wp2_with fail
    refine CC.out.mono ?_
    rintro e w2 ⟨rfl, hb2⟩
    have H2 := Lib.hid (H1.out.below hb2)
    clear hb2 CC H1
    cases q with
    | true =>
      go_wp2
      go_ret
      exact ⟨true, rest2, _, rfl, H2.out, by rw [HRN.out, sepS_cons, HQ.out]; rfl⟩
    | false =>
      go_wp2_with fail
      refine (back_any w0 b s a rest2 acc its w2 H2.out HP.out).mono ?_
      rintro e w3 ⟨rfl, h3⟩
      have H3 := Lib.hid h3
      clear h3
      go_wp2
      go_ret
      exact ⟨false, _, _, rfl, H3.out, by rw [HRN.out, sepS_cons, HQ.out]; rfl⟩
end Go.Proofs.YtdfhidnhkeapbaaGreatDoor
