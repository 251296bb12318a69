/- The lexer's peek, accept, acceptRun; what characters are. -/
import Derived.Test.YtdfhidnhkeapbaaGreatDoorLxNext
import Derived.Test.YtdfhidnhkeapbaaGreatDoorLxApp
namespace Go.Proofs.YtdfhidnhkeapbaaGreatDoor
open Go.RowKit U8
open Go.Lib hiding intOf

theorem Lx.pre {w0 : World} {b : Nat} {s rest : List UInt8} {wd : Nat} {acc : List Nat} {its : List LI} {W : World} (h : Lx w0 b s rest wd acc its W) : ∃ q, s = q ++ rest := by
  obtain ⟨_, _, _, q, _, _, _, _, _, hq, _⟩ := h
  exact ⟨q, hq⟩
/-- How next ends. -/
def NextP (w0 : World) (b : Nat) (s rest : List UInt8) (acc : List Nat) (its : List LI) (e : Ending) (w' : World) : Prop :=
  (rest = [] ∧ e = .returned (.int .i32 (-1)) ∧ Lx w0 b s [] 0 acc its w') ∨
  (∃ (a rest2 : List UInt8) (r : Nat), rest = a ++ rest2 ∧ a ≠ [] ∧ Sc r ∧ rns rest = r :: rns rest2 ∧ e = .returned (.int .i32 r) ∧ Lx w0 b s rest2 a.length acc its w')
theorem next_any (w0 : World) (b : Nat) (s rest : List UInt8) (wd : Nat) (acc : List Nat) (its : List LI) (w : World) (h : Lx w0 b s rest wd acc its w) (hT : Tabs w0) :
    Calls Tryz.prog 114 #[.pointer (some ⟨b, 0, none⟩)] w (NextP w0 b s rest acc its) := by
  by_cases hne : rest = []
  · subst hne
    exact (next_end w0 b s wd acc its w h).mono fun e w' ⟨h1, h2, _⟩ => .inl ⟨rfl, h1, h2⟩
  · obtain ⟨a, rest2, r, rfl, ha, hd, hsc, _⟩ := first_part rest hne
    exact (next_more w0 b s a rest2 r wd acc its w h ha hd hT).mono fun e w' ⟨h1, h2, _⟩ => .inr ⟨a, rest2, r, rfl, ha, hsc, rns_cons a rest2 r ha hd, h1, h2⟩
/-- How next ends, and that nothing but the lexer turned. -/
def NextF (w0 : World) (b : Nat) (s rest : List UInt8) (acc : List Nat) (its : List LI) (w : World) (e : Ending) (w' : World) : Prop := NextP w0 b s rest acc its e w' ∧ Fr b w w'
theorem next_fr (w0 : World) (b : Nat) (s rest : List UInt8) (wd : Nat) (acc : List Nat) (its : List LI) (w : World) (h : Lx w0 b s rest wd acc its w) (hT : Tabs w0) :
    Calls Tryz.prog 114 #[.pointer (some ⟨b, 0, none⟩)] w (NextF w0 b s rest acc its w) := by
  by_cases hne : rest = []
  · subst hne
    exact (next_end w0 b s wd acc its w h).mono fun e w' ⟨h1, h2, h3⟩ => ⟨.inl ⟨rfl, h1, h2⟩, h3⟩
  · obtain ⟨a, rest2, r, rfl, ha, hd, hsc, _⟩ := first_part rest hne
    exact (next_more w0 b s a rest2 r wd acc its w h ha hd hT).mono fun e w' ⟨h1, h2, h3⟩ => ⟨.inr ⟨a, rest2, r, rfl, ha, hsc, rns_cons a rest2 r ha hd, h1, h2⟩, h3⟩
theorem back_any (w0 : World) (b : Nat) (s a rest : List UInt8) (acc : List Nat) (its : List LI) (w : World) (h : Lx w0 b s rest a.length acc its w) (hq : ∃ q, s = q ++ (a ++ rest)) :
    Calls Tryz.prog 122 #[.pointer (some ⟨b, 0, none⟩)] w fun e w' => e = .returned (.tuple #[]) ∧ Lx w0 b s (a ++ rest) a.length acc its w' := by
  obtain ⟨q0, hq⟩ := hq
  exact backup_any w0 b s a rest q0 acc its w h hq
theorem beq_sw (a r : Nat) : (a == r) = (r == a) := by
  by_cases h : a = r
  · rw [h]
  · rw [beq_eq_false_iff_ne.2 h, beq_eq_false_iff_ne.2 (Ne.symm h)]
theorem has_ws (r : Nat) : hasR [32, 12, 9] r = wsR r := by
  unfold hasR wsR
  rw [show rns [32, 12, 9] = [32, 12, 9] by decide +kernel]
  simp only [List.any_cons, List.any_nil, Bool.or_false, beq_sw _ r, Bool.or_assoc]
theorem has_sep (r : Nat) : hasR [58, 61] r = (r == 58 || r == 61) := by
  unfold hasR
  rw [show rns [58, 61] = [58, 61] by decide +kernel]
  simp only [List.any_cons, List.any_nil, Bool.or_false, beq_sw _ r]
theorem has_end (r : Nat) : hasR [32, 12, 9, 13, 10, 58, 61] r = endR r := by
  unfold hasR endR
  rw [show rns [32, 12, 9, 13, 10, 58, 61] = [32, 12, 9, 13, 10, 58, 61] by decide +kernel]
  simp only [List.any_cons, List.any_nil, Bool.or_false, beq_sw _ r, Bool.or_assoc]
theorem has_esc (r : Nat) : hasR [32, 58, 61, 102, 110, 114, 116] r = escR r := by
  unfold hasR escR
  rw [show rns [32, 58, 61, 102, 110, 114, 116] = [32, 58, 61, 102, 110, 114, 116] by decide +kernel]
  simp only [List.any_cons, List.any_nil, Bool.or_false, beq_sw _ r, Bool.or_assoc]
set_option maxHeartbeats 1600000 in
set_option maxRecDepth 100000 in
theorem accrun_any (w0 : World) (b : Nat) (s rest : List UInt8) (wd : Nat) (acc : List Nat) (its : List LI) (w : World) (h : Lx w0 b s rest wd acc its w) (hT : Tabs w0) :
    Calls Tryz.prog 134 #[.pointer (some ⟨b, 0, none⟩), .string ⟨#[32, 12, 9]⟩] w fun e w' => e = .returned (.tuple #[]) ∧ ∃ (rest2 : List UInt8) (wd2 : Nat), Lx w0 b s rest2 wd2 acc its w' ∧ rns rest2 = dropWs (rns rest) := by
  have HL := Lib.hid h
  have HT := Lib.hid hT
  obtain ⟨R, hR⟩ : ∃ R, dropWs (rns rest) = R := ⟨_, rfl⟩
  rw [hR]
  have HR := Lib.hid hR
  clear h hT hR
  go_enter Tryz.func134, Tryz.ntmps134
  go_wp2
  go_loopg [] (rest.length + 1) (fun gk wr => ∃ (r1 : List UInt8) (wd1 : Nat), r1.length < gk ∧ Hid (Lx w0 b s r1 wd1 acc its wr) ∧ Hid (dropWs (rns r1) = R))
  case atStart => exact ⟨rest, wd, by omega, HL.out, HR.out⟩
  case round =>
    clear HL HR
    obtain ⟨r1, wd1, hg, HL, HR⟩ := hrel
    have hpre := HL.out.pre
    have HPR := Lib.hid hpre
    clear hpre
    go_wp2_with fail
    refine (next_any w0 b s r1 wd1 acc its wr HL.out HT.out).mono ?_
    rintro e w1 (⟨hr, rfl, h1⟩ | ⟨a, rest2, r, hr, ha, hsc, hrn, rfl, h1⟩)
    · subst hr
      have H1 := Lib.hid h1
      clear h1
      go_wp2_with fail
      refine (crune_eof _ w1).mono ?_
      rintro e w2 ⟨rfl, hw⟩
      obtain rfl := hw.symm
      go_wp2_with fail
      refine (back_any w0 b s [] [] acc its w1 H1.out HPR.out).mono ?_
      rintro e w3 ⟨rfl, h3⟩
      have H3 := Lib.hid h3
      clear h3
      go_wp2
      go_end0
      exact ⟨rfl, _, _, H3.out, HR.out⟩
    · subst hr
      have H1 := Lib.hid h1
      have HRN := Lib.hid hrn
      have cC := crune_any [32, 12, 9] r w1 hsc (by decide)
      rw [has_ws] at cC
      have CC : Hid (Calls Tryz.prog 136 #[.string ⟨#[32, 12, 9]⟩, .int .i32 r] w1 fun e w' => e = .returned (.bool (wsR r)) ∧ Below w1.heap.size w1 w') := cC
      have hal := List.length_pos_iff.2 ha
      rw [List.length_append] at hg
      obtain ⟨q, hq⟩ : ∃ q, wsR r = q := ⟨_, rfl⟩
      rw [hq] at CC
      have HQ := Lib.hid hq
      clear h1 hrn cC hq ha
      go_wp2_with fail
      refine CC.out.mono ?_
      rintro e w2 ⟨rfl, hb2⟩
      have H2 := Lib.hid (H1.out.below hb2)
      clear hb2 CC H1
      cases q with
      | true =>
        obtain ⟨gk, rfl⟩ : ∃ m, gk = m + 1 := ⟨gk - 1, by omega⟩
        have HR2 : Hid (dropWs (rns rest2) = R) := by
          show _ = _
          rw [← HR.out, HRN.out]
          unfold dropWs
          rw [List.dropWhile_cons, HQ.out, if_pos rfl]
        clear HR
        go_wp2
        go_roundg gk
        case rel => exact ⟨rest2, _, by omega, H2.out, HR2.out⟩
        case measure => omega
      | false =>
        have HR2 : Hid (rns (a ++ rest2) = R) := by
          show _ = _
          rw [← HR.out, HRN.out]
          unfold dropWs
          rw [List.dropWhile_cons, HQ.out]
          rfl
        clear HR
        go_wp2_with fail
        refine (back_any w0 b s a rest2 acc its w2 H2.out HPR.out).mono ?_
        rintro e w3 ⟨rfl, h3⟩
        have H3 := Lib.hid h3
        clear h3
        go_wp2
        go_end0
        exact ⟨rfl, _, _, H3.out, HR2.out⟩
end Go.Proofs.YtdfhidnhkeapbaaGreatDoor
