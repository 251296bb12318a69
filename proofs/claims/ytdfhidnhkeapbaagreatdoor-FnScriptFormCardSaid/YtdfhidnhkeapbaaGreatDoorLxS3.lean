/- The lexer's state ahead of a value. Condition: the number of items. -/
import Derived.Test.YtdfhidnhkeapbaaGreatDoorLxS0
namespace Go.Proofs.YtdfhidnhkeapbaaGreatDoor
open Go.RowKit U8
open Go.Lib hiding intOf

set_option maxHeartbeats 3200000 in
theorem state3_any (w0 : World) (b : Nat) (s rest : List UInt8) (wd : Nat) (its : List LI) (w : World) (h : Lx w0 b s rest wd [] its w) (hT : Tabs w0) :
    Calls Tryz.prog 141 #[.pointer (some ⟨b, 0, none⟩)] w (StP w0 b s its 3 (rns rest)) := by
  have C := Lib.hid (accrun_any w0 b s rest wd [] its w h hT)
  have HT := Lib.hid hT
  clear h hT
  obtain ⟨RR, hRR⟩ : ∃ RR, rns rest = RR := ⟨_, rfl⟩
  rw [hRR]
  rw [hRR] at C
  clear hRR
  go_enter Tryz.func141, Tryz.ntmps141
  go_wp2_with fail
  refine C.out.mono ?_
  rintro e w1 ⟨rfl, r0, wd0, h1, hr0⟩
  have H1 := Lib.hid h1
  have HR0 := Lib.hid hr0
  clear h1 hr0 C
  go_wp2_with fail
  refine (accept_any w0 b s r0 _ [] its w1 H1.out HT.out).mono ?_
  rintro e w2 ⟨q, r1, wd1, rfl, h2, hr1⟩
  have H2 := Lib.hid h2
  have HR1 := Lib.hid hr1
  clear h2 H1 hr1
  go_wp2_with fail
  refine (accrun_any w0 b s r1 _ [] its w2 H2.out HT.out).mono ?_
  rintro e w3 ⟨rfl, r2, wd2, h3, hr2⟩
  have H3 := Lib.hid h3
  have HF : Hid (rns r2 = bvS RR) := by show _ = _; rw [hr2, HR1.out, HR0.out, bvS_eq]
  clear h3 hr2 H2 HR1 HR0
  go_wp2_with fail
  refine (ignore_any w0 b s r2 _ [] its w3 H3.out).mono ?_
  rintro e w4 ⟨rfl, h4⟩
  have H4 := Lib.hid h4
  clear h4 H3
  go_wp2
  go_ret
  exact ⟨some 4, [], r2, _, [], its, rfl, H4.out, by simp, by simp, fun n => by rw [lexM, HF.out] <;> rfl, fun q hq => by
    cases hq
    have := bvS_le RR
    rw [HF.out]
    exact ⟨by unfold mu; simp <;> omega, rfl⟩⟩
end Go.Proofs.YtdfhidnhkeapbaaGreatDoor
