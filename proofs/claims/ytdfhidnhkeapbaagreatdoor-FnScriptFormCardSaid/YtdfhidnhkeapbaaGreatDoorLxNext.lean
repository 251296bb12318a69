/- The lexer's next at a character. -/
import Derived.Test.YtdfhidnhkeapbaaGreatDoorLxBase
namespace Go.Proofs.YtdfhidnhkeapbaaGreatDoor
open Go.RowKit U8
open Go.Lib hiding intOf

set_option maxHeartbeats 1600000 in
set_option maxRecDepth 100000 in
theorem next_more (w0 : World) (b : Nat) (s a rest : List UInt8) (r wd : Nat) (acc : List Nat) (its : List LI) (w : World) (h : Lx w0 b s (a ++ rest) wd acc its w) (ha : a ≠ []) (hd : decodeL (a ++ rest) = (r, a.length)) (hT : Tabs w0) :
    Calls Tryz.prog 114 #[.pointer (some ⟨b, 0, none⟩)] w fun e w' => e = .returned (.int .i32 r) ∧ Lx w0 b s rest a.length acc its w' ∧ Fr b w w' := by
  have HL := Lib.hid h
  have HT := Lib.hid hT
  obtain ⟨h1, h2⟩ := h.len
  obtain ⟨q, st, z1, z2, vr, vi, hq, _, c0, _, c2, _, c4, _, _, f, _, _⟩ := h.vals
  have hts := txt_size s
  have hal : 0 < a.length := List.length_pos_iff.2 ha
  have hql : q.length + a.length ≤ s.length := by rw [hq, List.length_append, List.length_append]; omega
  have HQ := Lib.hid hq
  have HD := Lib.hid hd
  have HA := Lib.hid ha
  clear h f hq hd ha hT
  go_enter Tryz.func114, Tryz.ntmps114
  go_upto_region 1 with fail
  go_quiet (fail)
  go_upto_region 4 with fail
  generalize hw1 : World.drewN w _ = w1
  have HL1 : Hid (Lx w0 b s (a ++ rest) wd acc its w1) := hw1 ▸ HL.out.drewN _
  have HF1 : Hid (Fr b w w1) := hw1 ▸ Fr.drewN b w _
  clear c0 c2 c4 hw1 HL
  obtain ⟨q', _, _, _, _, _, hq', _, c0, _, c2, _, c4, _, _, f, _, _⟩ := HL1.out.vals
  obtain rfl : q' = q := List.append_cancel_right (hq'.symm.trans HQ.out)
  have hsl : (txt s).extract q'.length (txt s).size = txt (a ++ rest) := by rw [hq']; exact txt_skip q' (a ++ rest)
  have hsl2 : (txt s).extract q'.length s.length = txt (a ++ rest) := by rw [← hts]; exact hsl
  have hB := HL1.out.below0
  clear hq' f
  go_cut [3, 4] (fun s3 s4 W => s3 = .int .i32 r ∧ s4 = .int .i64 a.length ∧ Hid (Lx w0 b s (a ++ rest) wd acc its W) ∧ Hid (Fr b w W))
  case first =>
    as_aux_lemma =>
      go_region_with (go_at_call 133; refine (dec_list a rest r _ HA.out HD.out (HT.out.below (by first | exact hB | exact hB.drew))).mono ?_; rintro e wn ⟨rfl, hbn⟩; have HLN := Lib.hid (Lx.below (by first | exact HL1.out | exact HL1.out.drew) hbn); have HFN := Lib.hid (Fr.trans HF1.out (Fr.below (b := b) (w := w1) (w' := wn) (by first | exact hbn | exact ⟨hbn.os, hbn.tape, hbn.output, hbn.size, hbn.block⟩) HL1.out.lt)); clear hbn)
      all_goals
        go_wp2
        go_meet
        exact ⟨rfl, rfl, HLN.out, HFN.out⟩
  case rest =>
    as_aux_lemma =>
      clear c0 c2 c4 hB hsl hsl2 HL1
      obtain ⟨rfl, rfl, HL2, HF2⟩ := hcut
      obtain ⟨q2, _, _, _, _, _, hq2, _, c0, _, c2, _, c4, _, _, f, _, _⟩ := HL2.out.vals
      obtain rfl : q2 = q' := List.append_cancel_right (hq2.symm.trans HQ.out)
      have f4 := f 4
      clear f hq2
      go_upto_region 6 with fail
      have HL3 := Lib.hid (HL2.out.set4 a.length)
      have HF3 := Lib.hid (HF2.out.set 4 (.int .i64 a.length) (.inr rfl))
      clear c0 c2 c4 f4 HL2 HF2 HF1
      generalize World.setCell wc ⟨b, 4, none⟩ (.int .i64 a.length) = w3 at *
      obtain ⟨q3, _, _, _, _, _, hq3, _, c0, _, c2, _, c4, _, _, f, _, _⟩ := HL3.out.vals
      obtain rfl : q3 = q2 := List.append_cancel_right (hq3.symm.trans HQ.out)
      have f2 := f 2
      clear f hq3
      go_still_tail 11, (by kernel_rfl)
      change wpList _ _ _ _ _ w3.drew
      have HL4 : Hid (Lx w0 b s (a ++ rest) a.length acc its w3.drew) := HL3.out.drew
      have HF4 : Hid (Fr b w w3.drew) := HF3.out.drew
      clear c0 c2 c4 f2 HL3 HF3
      generalize w3.drew = w4 at *
      obtain ⟨q4, _, _, _, _, _, hq4, _, c0, _, c2, _, c4, _, _, f, _, _⟩ := HL4.out.vals
      obtain rfl : q4 = q3 := List.append_cancel_right (hq4.symm.trans HQ.out)
      have f2 := f 2
      clear f hq4
      go_wp2
      go_ret
      exact ⟨rfl, HL4.out.set2 (q4 ++ a) rest (by rw [HQ.out, List.append_assoc]) _ (by simp), HF4.out.set 2 _ (.inl rfl)⟩
end Go.Proofs.YtdfhidnhkeapbaaGreatDoor
