/- The lexer's state in a comment. Conditions: the number of items, the number of characters. -/
import Derived.Test.YtdfhidnhkeapbaaGreatDoorLxS0
namespace Go.Proofs.YtdfhidnhkeapbaaGreatDoor
open Go.RowKit U8
open Go.Lib hiding intOf

set_option maxHeartbeats 3200000 in
theorem state1_any (w0 : World) (b : Nat) (s rest : List UInt8) (wd : Nat) (its : List LI) (w : World) (h : Lx w0 b s rest wd [] its w) (hT : Tabs w0) (hl : its.length ≤ 1000000) (hz : (rns rest).length ≤ 1000000) :
    Calls Tryz.prog 120 #[.pointer (some ⟨b, 0, none⟩)] w (StP w0 b s its 1 (rns rest)) := by
  have C := Lib.hid (accrun_any w0 b s rest wd [] its w h hT)
  have HT := Lib.hid hT
  clear h hT
  obtain ⟨RR, hRR⟩ : ∃ RR, rns rest = RR := ⟨_, rfl⟩
  rw [hRR]
  rw [hRR] at C hz
  clear hRR
  go_enter Tryz.func120, Tryz.ntmps120
  go_wp2_with fail
  refine C.out.mono ?_
  rintro e w1 ⟨rfl, r0, wd0, h1, hr0⟩
  have H1 := Lib.hid h1
  have HR0 := Lib.hid hr0
  have hd0 : (rns r0).length ≤ RR.length := by rw [hr0]; exact dropWs_le RR
  clear h1 hr0 C
  go_wp2_with fail
  refine (ignore_any w0 b s r0 _ [] its w1 H1.out).mono ?_
  rintro e w2 ⟨rfl, h2⟩
  have H2 := Lib.hid h2
  clear h2 H1
  go_wp2
  go_loopg [3] ((rns r0).length + 1) (fun gk v3 wr => ∃ (acc : List Nat) (r1 : List UInt8) (wd1 : Nat), Hid (Lx w0 b s r1 wd1 acc its wr) ∧ Hid (cmtF [] (dropWs RR) = cmtF acc (rns r1)) ∧ acc.length + (rns r1).length ≤ 1000000 ∧ (rns r1).length ≤ RR.length ∧ (rns r1).length < gk)
  case atStart => exact ⟨[], r0, _, H2.out, (by show _ = _; rw [HR0.out]), by simp; omega, hd0, by omega⟩
  case round =>
    clear H2 HR0 hd0
    obtain ⟨acc, r1, wd1, HL, HC, hsz, hrl, hg⟩ := hrel
    go_wp2_with fail
    refine (next_any w0 b s r1 wd1 acc its wr HL.out HT.out).mono ?_
    rintro e w3 (⟨hr, rfl, h3⟩ | ⟨a, rest2, r, hr, ha, hsc, hrn, rfl, h3⟩)
    · subst hr
      have H3 := Lib.hid h3
      have HF : Hid (cmtF [] (dropWs RR) = (acc, none)) := by show _ = _; rw [HC.out, rns_nil]; rfl
      clear h3 HC HL
      go_wp2_with fail
      refine (isEOF_eof w3).mono ?_
      rintro e w4 ⟨rfl, hw⟩
      obtain rfl := hw.symm
      go_wp2_with fail
      refine (ignore_any w0 b s [] _ acc its w3 H3.out).mono ?_
      rintro e w4 ⟨rfl, h4⟩
      have H4 := Lib.hid h4
      clear h4 H3
      go_wp2_with fail
      refine (emit_any w0 b 1 s [] _ acc its w4 H4.out hl).mono ?_
      rintro e w5 ⟨rfl, p, h5⟩
      have H5 := Lib.hid h5
      clear h5 H4
      go_wp2
      go_ret
      exact ⟨none, [(1, encA acc)], [], _, [], _, rfl, H5.out, by simp, by rw [List.map_append]; rfl, fun n => by rw [lexM, HF.out] <;> rfl, fun q hq => by cases hq⟩
    · subst hr
      have H3 := Lib.hid h3
      have HCN : Hid (cmtF [] (dropWs RR) = cmtF acc (r :: rns rest2)) := by show _ = _; rw [HC.out, hrn]
      rw [hrn, List.length_cons] at hsz hrl hg
      clear h3 hrn ha HC HL
      go_wp2_with fail
      refine (isEOF_nat r w3).mono ?_
      rintro e w4 ⟨rfl, hw⟩
      obtain rfl := hw.symm
      go_wp2_with fail
      refine (isEOL_nat r w3).mono ?_
      rintro e w4 ⟨rfl, hw⟩
      obtain rfl := hw.symm
      obtain ⟨q1, hq1⟩ : ∃ q, eolR r = q := ⟨_, rfl⟩
      rw [hq1]
      have HQ1 := Lib.hid hq1
      clear hq1
      cases q1 with
      | true =>
        have HF : Hid (cmtF [] (dropWs RR) = (acc, some (rns rest2))) := by show _ = _; rw [HCN.out, cmtF, if_pos HQ1.out]
        go_wp2_with fail
        refine (emit_any w0 b 4 s rest2 _ acc its w3 H3.out hl).mono ?_
        rintro e w5 ⟨rfl, p, h5⟩
        have H5 := Lib.hid h5
        clear h5 H3
        go_wp2
        go_ret
        exact ⟨some 0, [(4, encA acc)], rest2, _, [], _, rfl, H5.out, by simp, by rw [List.map_append]; rfl, fun n => by rw [lexM, HF.out] <;> rfl, fun q hq => by cases hq; exact ⟨by unfold mu; simp <;> omega, rfl⟩⟩
      | false =>
        obtain ⟨gk, rfl⟩ : ∃ m, gk = m + 1 := ⟨gk - 1, by omega⟩
        have HF : Hid (cmtF [] (dropWs RR) = cmtF (acc ++ [r]) (rns rest2)) := by show _ = _; rw [HCN.out, cmtF, if_neg (by rw [HQ1.out]; decide)]
        go_wp2_with fail
        refine (appendRune_any w0 b s rest2 r _ acc its w3 H3.out (by omega)).mono ?_
        rintro e w5 ⟨rfl, h5⟩
        have H5 := Lib.hid h5
        clear h5 H3 HCN
        go_wp2
        go_roundg gk
        case rel => exact ⟨acc ++ [r], rest2, _, H5.out, HF.out, by simp; omega, by omega, by omega⟩
        case measure => omega
end Go.Proofs.YtdfhidnhkeapbaaGreatDoor
