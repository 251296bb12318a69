/- Scrub, the package's and the reference's, at the seat of patterns; impl.Width. -/
import Derived.Test.YtkaoafhkllomcaaDoorPWid
import Derived.Test.YtkaoafhkllomcaaDoorScrubPlain
namespace Go.Proofs.YtkaoafhkllomcaaDoor
open Go.RowKit U8
open Go.Lib hiding intOf

set_option maxHeartbeats 3200000 in
set_option maxRecDepth 100000 in
theorem scrub_any (l repl : List UInt8) (w : World) (hl : l.length ≤ 1000000) (hr : repl.length ≤ 1000000) (hR : (scr repl false l).length ≤ 100000000000) (hT : Tabs w) :
    Calls Tryd.prog 55 #[.string (txt l), .string (txt repl)] w fun e w' => e = .returned (.string (txt (scr repl false l))) ∧ Below w.heap.size w w' := by
  obtain ⟨R, hRR⟩ : ∃ R, scr repl false l = R := ⟨_, rfl⟩
  rw [hRR] at hR ⊢
  have HRR := Lib.hid hRR
  clear hRR
  go_enter Tryd.func55, Tryd.ntmps55
  go_wp2
  go_loopg [0, 5, 8, 9, 10] (l.length + 1) (fun gk s buf pos err org wr => ∃ o rest : List UInt8, s = .string (txt rest) ∧ org = .string (txt (o ++ rest)) ∧ pos = .int .i64 o.length ∧ rest.length < gk ∧ o.length + rest.length ≤ l.length ∧ Below w.heap.size w wr ∧
    ((buf = .pointer none ∧ err = .bool false ∧ Hid (R = o ++ scr repl false rest)) ∨
     (∃ b c, buf = .pointer (some ⟨b, 0, none⟩) ∧ err = .bool true ∧ Hid (Bld w.heap.size b c wr) ∧ Hid (R = c ++ repl ++ scr repl true rest)) ∨
     (∃ b c, buf = .pointer (some ⟨b, 0, none⟩) ∧ err = .bool false ∧ Hid (Bld w.heap.size b c wr) ∧ Hid (R = c ++ o ++ scr repl false rest))))
  case atStart => exact ⟨[], l, rfl, rfl, rfl, by omega, by simp, Below.refl _ _, .inl ⟨rfl, rfl, HRR.out.symm⟩⟩
  case round =>
    obtain ⟨o, rest, rfl, rfl, rfl, hg, hlen, hb, hst⟩ := hrel
    have hbs := hb.size
    have hTr := hT.below hb
    by_cases hne : rest = []
    · subst hne
      have h0 : (txt ([] : List UInt8)).size ≤ 0 := Nat.le_refl _
      have hol : o.length ≤ 1000000 := by omega
      rw [List.append_nil]
      rcases hst with ⟨rfl, rfl, hinv⟩ | ⟨b, c, rfl, rfl, hbl, hinv⟩ | ⟨b, c, rfl, rfl, hbl, hinv⟩
      · go_wp2
        go_ret
        have e := hinv.out
        rw [scr_nil, List.append_nil] at e
        exact ⟨by rw [e]; rfl, hb⟩
      · have hcl : c.length ≤ 100000000000 := by have h := congrArg List.length hinv.out; rw [List.length_append, List.length_append] at h; omega
        go_wp2_with fail
        refine (bld_write w.heap.size b c repl _ hbl.out (by omega) hbs).mono ?_
        rintro e w1 ⟨rfl, hbl1, hb1, _⟩
        have hc1 := hb.trans hb1
        go_wp2_with fail
        refine (bld_string w.heap.size b _ _ hbl1 hc1.size).mono ?_
        rintro e w2 ⟨rfl, _, hb2, _⟩
        go_wp2
        go_ret
        have e := hinv.out
        rw [scr_nil, List.append_nil] at e
        exact ⟨by rw [e]; rfl, hc1.trans hb2⟩
      · have hcl : c.length ≤ 100000000000 := by have h := congrArg List.length hinv.out; rw [List.length_append, List.length_append] at h; omega
        go_wp2_with fail
        refine (bld_write w.heap.size b c o _ hbl.out (by omega) hbs).mono ?_
        rintro e w1 ⟨rfl, hbl1, hb1, _⟩
        have hc1 := hb.trans hb1
        go_wp2_with fail
        refine (bld_string w.heap.size b _ _ hbl1 hc1.size).mono ?_
        rintro e w2 ⟨rfl, _, hb2, _⟩
        go_wp2
        go_ret
        have e := hinv.out
        rw [scr_nil, List.append_nil] at e
        exact ⟨by rw [e]; rfl, hc1.trans hb2⟩
    · obtain ⟨a, rest, r, rfl, ha, hd, hsc, _⟩ := first_part rest hne
      have hsz := size_pos a rest ha
      have hple := part_le a rest
      have hri := hsc.i32
      have hal : 0 < a.length := List.length_pos_iff.2 ha
      rw [List.length_append] at hg hlen
      obtain ⟨gk, rfl⟩ : ∃ m, gk = m + 1 := ⟨gk - 1, by omega⟩
      have cD := Lib.hid (dec_list a rest r wr ha hd hTr)
      have HD := Lib.hid hd
      have HA := Lib.hid ha
      have hole : o.length ≤ (txt (o ++ (a ++ rest))).size := by rw [txt_size, List.length_append]; omega
      have hskip := txt_skip a rest
      have htake := txt_take o (a ++ rest)
      have horg := txt_skip o (a ++ rest)
      clear hd hTr hne ha
      by_cases hrr : r = 65533
      · subst hrr
        rcases hst with ⟨rfl, rfl, hinv⟩ | ⟨b, c, rfl, rfl, hbl, hinv⟩ | ⟨b, c, rfl, rfl, hbl, hinv⟩
        · go_wp2_with (go_at_call 56; refine cD.out.mono ?_; rintro e w1 ⟨rfl, hb1⟩)
          have hc1 := hb.trans (hb1.mono hbs)
          have hcs := hc1.size
          refine (bld_write w.heap.size w1.heap.size [] o _ (bld_fresh _ w1 hcs) (by simp; omega) (by simp; omega)).mono ?_
          rintro e w2 ⟨rfl, hbl2, hb2, _⟩
          have hc2 := (hc1.alloc hcs _).trans hb2
          rw [List.nil_append] at hbl2
          go_wp2
          go_roundg gk
          case rel =>
            refine ⟨o ++ a, rest, rfl, by rw [List.append_assoc], by simp, by omega, by rw [List.length_append]; omega, hc2, .inr (.inl ⟨_, o, rfl, rfl, hbl2, ?_⟩)⟩
            show _ = _
            rw [hinv.out, scr_bad repl a rest false HA.out HD.out]
            simp
          case measure => omega
        · go_wp2_with (go_at_call 56; refine cD.out.mono ?_; rintro e w1 ⟨rfl, hb1⟩)
          go_roundg gk
          case rel =>
            refine ⟨o ++ a, rest, rfl, by rw [List.append_assoc], by simp, by omega, by rw [List.length_append]; omega, hb.trans (hb1.mono hbs), .inr (.inl ⟨b, c, rfl, rfl, hbl.out.below hb1, ?_⟩)⟩
            show _ = _
            rw [hinv.out, scr_bad repl a rest true HA.out HD.out]
            simp
          case measure => omega
        · have hcl : c.length ≤ 100000000000 := by have h := congrArg List.length hinv.out; rw [List.length_append, List.length_append] at h; omega
          go_wp2_with (go_at_call 56; refine cD.out.mono ?_; rintro e w1 ⟨rfl, hb1⟩)
          have hc1 := hb.trans (hb1.mono hbs)
          refine (bld_write w.heap.size b c o _ (hbl.out.below hb1) (by omega) hc1.size).mono ?_
          rintro e w2 ⟨rfl, hbl2, hb2, _⟩
          go_wp2
          go_roundg gk
          case rel =>
            refine ⟨o ++ a, rest, rfl, by rw [List.append_assoc], by simp, by omega, by rw [List.length_append]; omega, hc1.trans hb2, .inr (.inl ⟨b, c ++ o, rfl, rfl, hbl2, ?_⟩)⟩
            show _ = _
            rw [hinv.out, scr_bad repl a rest false HA.out HD.out]
            simp
          case measure => omega
      · have hrz : ((r : Int) == 65533) = false := by simp; omega
        have HN := Lib.hid hrr
        clear hrr
        rcases hst with ⟨rfl, rfl, hinv⟩ | ⟨b, c, rfl, rfl, hbl, hinv⟩ | ⟨b, c, rfl, rfl, hbl, hinv⟩
        · go_wp2_with (go_at_call 56; refine cD.out.mono ?_; rintro e w1 ⟨rfl, hb1⟩)
          go_roundg gk
          case rel =>
            refine ⟨o ++ a, rest, rfl, by rw [List.append_assoc], by simp, by omega, by rw [List.length_append]; omega, hb.trans (hb1.mono hbs), .inl ⟨rfl, rfl, ?_⟩⟩
            show _ = _
            rw [hinv.out, scr_ok repl a rest false r HA.out HN.out HD.out]
            simp
          case measure => omega
        · have hcl : c.length ≤ 100000000000 := by have h := congrArg List.length hinv.out; rw [List.length_append, List.length_append] at h; omega
          go_wp2_with (go_at_call 56; refine cD.out.mono ?_; rintro e w1 ⟨rfl, hb1⟩)
          have hc1 := hb.trans (hb1.mono hbs)
          refine (bld_write w.heap.size b c repl _ (hbl.out.below hb1) (by omega) hc1.size).mono ?_
          rintro e w2 ⟨rfl, hbl2, hb2, _⟩
          go_wp2
          go_roundg gk
          case rel =>
            refine ⟨a, rest, rfl, rfl, by go_num, by omega, by omega, hc1.trans hb2, .inr (.inr ⟨b, c ++ repl, rfl, rfl, hbl2, ?_⟩)⟩
            show _ = _
            rw [hinv.out, scr_ok repl a rest true r HA.out HN.out HD.out]
            simp
          case measure => omega
        · go_wp2_with (go_at_call 56; refine cD.out.mono ?_; rintro e w1 ⟨rfl, hb1⟩)
          go_roundg gk
          case rel =>
            refine ⟨o ++ a, rest, rfl, by rw [List.append_assoc], by simp, by omega, by rw [List.length_append]; omega, hb.trans (hb1.mono hbs), .inr (.inr ⟨b, c, rfl, rfl, hbl.out.below hb1, ?_⟩)⟩
            show _ = _
            rw [hinv.out, scr_ok repl a rest false r HA.out HN.out HD.out]
            simp
          case measure => omega
theorem implScrub_any (l repl : List UInt8) (w : World) (hl : l.length ≤ 1000000) (hr : repl.length ≤ 1000000) (hR : (scr repl false l).length ≤ 100000000000) (hT : Tabs w) :
    Calls Tryd.prog 19 #[.string (txt l), .string (txt repl)] w fun e w' => e = .returned (.string (txt (scr repl false l))) ∧ Below w.heap.size w w' := by
  go_enter Tryd.func19, Tryd.ntmps19
  go_wp2_with (go_at_call 55; refine (scrub_any l repl _ hl hr hR hT).mono ?_; rintro e w' ⟨rfl, hb⟩)
  go_ret
  exact ⟨rfl, hb⟩
set_option maxHeartbeats 1600000 in
set_option maxRecDepth 100000 in
/-- THE REFERENCE's Scrub. -/
theorem specScrub_any (l repl : List UInt8) (w : World) (hR : (scr repl false l).length ≤ 100000000000) (hT : Tabs w) :
    Calls Tryd.prog 20 #[.string (txt l), .string (txt repl)] w fun e w' => e = .returned (.string (txt (scr repl false l))) ∧ Below w.heap.size w w' := by
  obtain ⟨R, hRR⟩ : ∃ R, scr repl false l = R := ⟨_, rfl⟩
  rw [hRR] at hR ⊢
  have HRR := Lib.hid hRR
  clear hRR
  go_enter Tryd.func20, Tryd.ntmps20
  go_wp2
  go_loopg [0, 5, 6] (l.length + 1) (fun gk s out bad wr => ∃ (o rest : List UInt8) (bd : Bool), s = .string (txt rest) ∧ out = .string (txt o) ∧ bad = .bool bd ∧ rest.length < gk ∧ rest.length ≤ l.length ∧ Hid (R = o ++ scr repl bd rest) ∧ Below w.heap.size w wr)
  case atStart => exact ⟨[], l, false, rfl, rfl, rfl, by omega, by omega, HRR.out.symm, Below.refl _ _⟩
  case round =>
    obtain ⟨o, rest, bd, rfl, rfl, rfl, hg, hlen, hinv, hb⟩ := hrel
    have hTr := hT.below hb
    by_cases hne : rest = []
    · subst hne
      have h0 : (txt ([] : List UInt8)).size ≤ 0 := Nat.le_refl _
      have e := hinv.out
      rw [scr_nil, List.append_nil] at e
      subst e
      go_wp2
      go_ret
      exact ⟨rfl, hb⟩
    · obtain ⟨a, rest, r, rfl, ha, hd, hsc, _⟩ := first_part rest hne
      have hsz := size_pos a rest ha
      have hple := part_le a rest
      have hri := hsc.i32
      have hal : 0 < a.length := List.length_pos_iff.2 ha
      rw [List.length_append] at hg hlen
      obtain ⟨gk, rfl⟩ : ∃ m, gk = m + 1 := ⟨gk - 1, by omega⟩
      have cD := Lib.hid (dec_list a rest r wr ha hd hTr)
      have HD := Lib.hid hd
      have HA := Lib.hid ha
      have hskip := txt_skip a rest
      have htake := txt_take a rest
      clear hd hTr hne ha
      by_cases hrr : r = 65533
      · subst hrr
        have hinv2 := hinv.out
        rw [scr_bad repl a rest bd HA.out HD.out] at hinv2
        have hln := congrArg List.length hinv2
        have HI := Lib.hid hinv2
        clear hinv2 hinv
        cases bd
        · have hcat : (txt o).size + (txt repl).size ≤ 200000000000 := by
            rw [txt_size, txt_size]; simp at hln; omega
          have happ := txt_append o repl
          clear hln
          go_wp2_with (go_at_call 56; refine cD.out.mono ?_; rintro e w1 ⟨rfl, hb1⟩)
          go_roundg gk
          case rel =>
            refine ⟨o ++ repl, rest, true, rfl, rfl, rfl, by omega, by omega, ?_, hb.trans (hb1.mono hb.size)⟩
            show _ = _
            rw [HI.out]; simp
          case measure => omega
        · clear hln
          go_wp2_with (go_at_call 56; refine cD.out.mono ?_; rintro e w1 ⟨rfl, hb1⟩)
          go_roundg gk
          case rel =>
            refine ⟨o, rest, true, rfl, rfl, rfl, by omega, by omega, ?_, hb.trans (hb1.mono hb.size)⟩
            show _ = _
            rw [HI.out]; simp
          case measure => omega
      · have hrz : ((r : Int) == 65533) = false := by simp; omega
        have hinv2 := hinv.out
        rw [scr_ok repl a rest bd r HA.out hrr HD.out] at hinv2
        have hln := congrArg List.length hinv2
        have HI := Lib.hid hinv2
        have hcat : (txt o).size + (txt a).size ≤ 200000000000 := by
          rw [txt_size, txt_size]; simp at hln; omega
        have happ := txt_append o a
        clear hinv2 hinv hln hrr
        go_wp2_with (go_at_call 56; refine cD.out.mono ?_; rintro e w1 ⟨rfl, hb1⟩)
        go_roundg gk
        case rel =>
          refine ⟨o ++ a, rest, false, rfl, rfl, rfl, by omega, by omega, ?_, hb.trans (hb1.mono hb.size)⟩
          show _ = _
          rw [HI.out]; simp
        case measure => omega
theorem txt_mid (p a rest : List UInt8) : (txt (p ++ (a ++ rest))).extract p.length (p.length + a.length) = txt a := by
  rw [txt_extract, ← List.append_assoc, List.take_append_of_le_length (by simp), ← List.length_append, List.take_length, List.drop_left]
/-- What the iterator over a text hands over. -/
theorem next_part (W : World) (k : Nat) (p a rest : List UInt8) (r : Nat) (hk : W.heap[k]? = some (.stringIter (txt (p ++ (a ++ rest))) p.length)) (ha : a ≠ []) (hd : decodeL (a ++ rest) = (r, a.length)) (ty : TypeId) :
    (Instr.next (.pointer (some ⟨k, 0, none⟩)) true ty).run Tryd.prog W = .ok (.tuple #[.bool true, .int .i64 p.length, .int .i32 r]) (W.iterAt k (txt (p ++ (a ++ rest))) (p ++ a).length) := by
  have hl : 0 < a.length := List.length_pos_iff.2 ha
  have hdec : Utf8.decode (txt (p ++ (a ++ rest))) p.length = (r, a.length) := by
    rw [← decodeL_drop, txt_list, List.drop_left]; exact hd
  rw [run_next_any_at W k _ _ ty hk (by rw [txt_size, List.length_append, List.length_append]; omega), hdec, List.length_append]
open Go.Lib hiding intOf

theorem implWidth_any (rs : List Nat) (w : World) (hs : Scs rs) (hl : rs.length ≤ 1000000) (hT : Tabs w) :
    Calls Tryd.prog 13 #[.string (txt (enc rs))] w fun e w' => e = .returned (.int .i64 (widAll rs)) ∧ Below w.heap.size w w' := by
  go_enter Tryd.func13, Tryd.ntmps13
  go_wp2_with (go_at_call 48; refine (width_any rs _ hs hl hT).mono ?_; rintro e w' ⟨rfl, hb⟩)
  go_ret
  exact ⟨rfl, hb⟩
theorem width_ab (w : World) (hT : Tabs w) : Calls Tryd.prog 13 #[.string ⟨#[97, 98]⟩] w fun e w' => e = .returned (.int .i64 2) ∧ Below w.heap.size w w' :=
  implWidth_any [97, 98] w (by decide) (by decide) hT

end Go.Proofs.YtkaoafhkllomcaaDoor
