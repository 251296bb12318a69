/- The lexer's states: what each hands on; the state ahead of a key. Condition: the number of items. -/
import Derived.Test.YtdfhidnhkeapbaaGreatDoorLxEsc
import Derived.Test.YtdfhidnhkeapbaaGreatDoorLxEmit2
namespace Go.Proofs.YtdfhidnhkeapbaaGreatDoor
open Go.RowKit U8
open Go.Lib hiding intOf

def stV : Option Nat → Value
  | some 0 => .func (.func 93) #[] #[]
  | some 1 => .func (.func 120) #[] #[]
  | some 2 => .func (.func 123) #[] #[]
  | some 3 => .func (.func 141) #[] #[]
  | some _ => .func (.func 151) #[] #[]
  | none => .nilFunc
/-- How a state ends: the next state (or none), the items that it told, what is left. -/
def StP (w0 : World) (b : Nat) (s : List UInt8) (its : List LI) (m : Nat) (rs : List Nat) (e : Ending) (w' : World) : Prop :=
  ∃ (nx : Option Nat) (new : List It) (rest2 : List UInt8) (wd2 : Nat) (acc2 : List Nat) (its2 : List LI), e = .returned (stV nx) ∧ Lx w0 b s rest2 wd2 acc2 its2 w' ∧ its2.length ≤ its.length + 2 ∧ its2.map liOf = its.map liOf ++ new ∧
    (∀ n, lexM (n + 1) m rs = new ++ (match nx with | none => [] | some q => lexM n q (rns rest2))) ∧ (∀ q, nx = some q → mu q (rns rest2) < mu m rs ∧ acc2 = [])
set_option maxHeartbeats 3200000 in
theorem state0_any (w0 : World) (b : Nat) (s rest : List UInt8) (wd : Nat) (its : List LI) (w : World) (h : Lx w0 b s rest wd [] its w) (hT : Tabs w0) (hl : its.length ≤ 1000000) :
    Calls Tryz.prog 93 #[.pointer (some ⟨b, 0, none⟩)] w (StP w0 b s its 0 (rns rest)) := by
  have C := Lib.hid (next_any w0 b s rest wd [] its w h hT)
  have HP := Lib.hid h.pre
  clear h hT
  obtain ⟨RR, hRR⟩ : ∃ RR, rns rest = RR := ⟨_, rfl⟩
  rw [hRR]
  have HRR := Lib.hid hRR
  clear hRR
  go_enter Tryz.func93, Tryz.ntmps93
  go_wp2_with fail
  refine C.out.mono ?_
  rintro e w1 (⟨hr, rfl, h1⟩ | ⟨a, rest2, r, hr, ha, hsc, hrn, rfl, h1⟩)
  · subst hr
    have H1 := Lib.hid h1
    have HF : Hid (RR = []) := by show _ = _; rw [← HRR.out, rns_nil]
    clear h1 HRR
    go_wp2_with fail
    refine (isEOF_eof w1).mono ?_
    rintro e w2 ⟨rfl, hw⟩
    obtain rfl := hw.symm
    go_wp2_with fail
    refine (emit_any w0 b 1 s [] _ [] its w1 H1.out hl).mono ?_
    rintro e w2 ⟨rfl, p, h2⟩
    have H2 := Lib.hid h2
    clear h2
    go_wp2
    go_ret
    exact ⟨none, [(1, [])], [], _, [], _, rfl, H2.out, by simp, by rw [List.map_append]; rfl, fun n => by rw [HF.out] <;> rfl, fun q hq => by cases hq⟩
  · subst hr
    have H1 := Lib.hid h1
    have HRN : Hid (RR = r :: rns rest2) := by show _ = _; rw [← HRR.out, hrn]
    clear h1 hrn ha
    go_wp2_with fail
    refine (isEOF_nat r w1).mono ?_
    rintro e w2 ⟨rfl, hw⟩
    obtain rfl := hw.symm
    go_wp2_with fail
    refine (isEOL_nat r w1).mono ?_
    rintro e w2 ⟨rfl, hw⟩
    obtain rfl := hw.symm
    obtain ⟨q1, hq1⟩ : ∃ q, eolR r = q := ⟨_, rfl⟩
    rw [hq1]
    have HQ1 := Lib.hid hq1
    clear hq1
    cases q1 with
    | true =>
      go_wp2_with fail
      refine (ignore_any w0 b s rest2 _ [] its w1 H1.out).mono ?_
      rintro e w2 ⟨rfl, h2⟩
      have H2 := Lib.hid h2
      clear h2 H1
      go_wp2
      go_ret
      exact ⟨some 0, [], rest2, _, [], its, rfl, H2.out, by simp, by simp, fun n => by rw [HRN.out, lexM, HQ1.out] <;> rfl, fun q hq => by cases hq; rw [HRN.out]; exact ⟨by unfold mu; simp <;> omega, rfl⟩⟩
    | false =>
      go_wp2_with fail
      refine (isCmt_nat r w1).mono ?_
      rintro e w2 ⟨rfl, hw⟩
      obtain rfl := hw.symm
      obtain ⟨q2, hq2⟩ : ∃ q, cmtR r = q := ⟨_, rfl⟩
      rw [hq2]
      have HQ2 := Lib.hid hq2
      clear hq2
      cases q2 with
      | true =>
        go_wp2
        go_ret
        exact ⟨some 1, [], rest2, _, [], its, rfl, H1.out, by simp, by simp, fun n => by rw [HRN.out, lexM, HQ1.out, HQ2.out] <;> rfl, fun q hq => by cases hq; rw [HRN.out]; exact ⟨by unfold mu; simp <;> omega, rfl⟩⟩
      | false =>
        go_wp2_with fail
        refine (isWs_nat r w1 hsc).mono ?_
        rintro e w2 ⟨rfl, hb2⟩
        have H2 := Lib.hid (H1.out.below hb2)
        clear hb2 H1
        obtain ⟨q3, hq3⟩ : ∃ q, wsR r = q := ⟨_, rfl⟩
        rw [hq3]
        have HQ3 := Lib.hid hq3
        clear hq3
        cases q3 with
        | true =>
          go_wp2_with fail
          refine (ignore_any w0 b s rest2 _ [] its w2 H2.out).mono ?_
          rintro e w3 ⟨rfl, h3⟩
          have H3 := Lib.hid h3
          clear h3 H2
          go_wp2
          go_ret
          exact ⟨some 0, [], rest2, _, [], its, rfl, H3.out, by simp, by simp, fun n => by rw [HRN.out, lexM, HQ1.out, HQ2.out, HQ3.out] <;> rfl, fun q hq => by cases hq; rw [HRN.out]; exact ⟨by unfold mu; simp <;> omega, rfl⟩⟩
        | false =>
          go_wp2_with fail
          refine (back_any w0 b s a rest2 [] its w2 H2.out HP.out).mono ?_
          rintro e w3 ⟨rfl, h3⟩
          have H3 := Lib.hid h3
          clear h3 H2
          go_wp2
          go_ret
          exact ⟨some 2, [], a ++ rest2, _, [], its, rfl, H3.out, by simp, by simp, fun n => by rw [HRR.out, HRN.out, lexM, HQ1.out, HQ2.out, HQ3.out] <;> rfl, fun q hq => by cases hq; rw [HRR.out, HRN.out]; exact ⟨by unfold mu; simp, rfl⟩⟩
end Go.Proofs.YtdfhidnhkeapbaaGreatDoor
