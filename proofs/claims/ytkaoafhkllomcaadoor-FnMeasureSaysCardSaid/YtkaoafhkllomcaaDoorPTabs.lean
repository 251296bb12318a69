/- The contracts of ExpandTabs. -/
import Derived.Test.YtkaoafhkllomcaaDoorPWid
import Derived.Test.YtkaoafhkllomcaaDoorPTabsPlain
namespace Go.Proofs.YtkaoafhkllomcaaDoor
open Go.RowKit U8
open Go.Lib hiding intOf

set_option maxHeartbeats 1600000 in
set_option maxRecDepth 100000 in
theorem alloc_any (B : Nat) (p rest : List Nat) (w : World) (hl : (enc (p ++ rest)).length ≤ 1000000) (hB : B ≤ w.heap.size) :
    Calls Tryd.prog 79 #[.string (txt (enc (p ++ rest))), .string (txt (enc rest))] w fun e w' => ∃ b, e = .returned (.pointer (some ⟨b, 0, none⟩)) ∧ Bld B b (enc p) w' ∧ Below B w w' := by
  have hsz : (txt (enc (p ++ rest))).size ≤ 1000000 := by rw [txt_size]; exact hl
  have hsp : (txt (enc (p ++ rest))).size = (enc p).length + (enc rest).length := by rw [txt_size, enc_append, List.length_append]
  have hsr : (txt (enc rest)).size = (enc rest).length := txt_size _
  have htake : (txt (enc (p ++ rest))).extract 0 (enc p).length = txt (enc p) := by rw [enc_append]; exact txt_take _ _
  have hsub : ((txt (enc (p ++ rest))).size : Int) - ((txt (enc rest)).size : Int) = ((enc p).length : Int) := by omega
  have hple : (enc p).length ≤ (txt (enc (p ++ rest))).size := by omega
  have hrle : (txt (enc rest)).size ≤ (txt (enc (p ++ rest))).size := by omega
  clear hsp hsr hl
  by_cases hbig : 2048 < (txt (enc (p ++ rest))).size * 4
  · go_enter Tryd.func79, Tryd.ntmps79
    go_wp2_with fail
    refine (bld_grow B w.heap.size 2048 _ hB (heap_alloc_new w _) (by simp; omega) (by omega)).mono ?_
    rintro e w1 ⟨rfl, hbl1, hb1⟩
    have hc1 := ((Below.refl B w).alloc hB _).trans hb1
    go_wp2_with fail
    refine (bld_write B w.heap.size _ (enc p) _ hbl1 (by simp; omega) (Nat.le_trans hB hc1.size)).mono ?_
    rintro e w2 ⟨rfl, hbl2, hb2, _⟩
    rw [List.nil_append] at hbl2
    go_wp2
    go_ret
    exact ⟨_, rfl, hbl2, hc1.trans hb2⟩
  · go_enter Tryd.func79, Tryd.ntmps79
    go_wp2_with fail
    rw [show ((txt (enc (p ++ rest))).size : Int) * 4 = (((txt (enc (p ++ rest))).size * 4 : Nat) : Int) by omega]
    refine (bld_grow B w.heap.size _ _ hB (heap_alloc_new w _) (by simp; omega) (by omega)).mono ?_
    rintro e w1 ⟨rfl, hbl1, hb1⟩
    have hc1 := ((Below.refl B w).alloc hB _).trans hb1
    go_wp2_with fail
    refine (bld_write B w.heap.size _ (enc p) _ hbl1 (by simp; omega) (Nat.le_trans hB hc1.size)).mono ?_
    rintro e w2 ⟨rfl, hbl2, hb2, _⟩
    rw [List.nil_append] at hbl2
    go_wp2
    go_ret
    exact ⟨_, rfl, hbl2, hc1.trans hb2⟩

set_option maxHeartbeats 3200000 in
set_option maxRecDepth 100000 in
theorem tabs_any (rs : List Nat) (z : Nat) (w : World) (hs : Scs rs) (hl : (enc rs).length ≤ 500) (hz : 1 ≤ z) (hz2 : z ≤ 100) (hT : Tabs w) :
    Calls Tryd.prog 54 #[.string (txt (enc rs)), .int .i64 z] w fun e w' => e = .returned (.string (txt (enc (tb z 0 rs)))) ∧ Below w.heap.size w w' := by
  have hsz500 : (txt (enc rs)).size ≤ 500 := by rw [txt_size]; exact hl
  have hrl := enc_length_ge rs
  have hrs5 : rs.length ≤ 500 := by omega
  go_enter Tryd.func54, Tryd.ntmps54
  go_wp2
  rw [show decide (z = 0) = false by simp; omega]
  go_loopg [0, 8, 10] (rs.length + 1) (fun gk s col out wr => ∃ (p rest : List Nat) (c : Nat), Hid (rs = p ++ rest) ∧ s = .string (txt (enc rest)) ∧ col = .int .i64 c ∧ rest.length < gk ∧ c ≤ 100 * p.length ∧ Scs rest ∧ Below w.heap.size w wr ∧
    ((out = .pointer none ∧ Hid (tb z 0 rs = p ++ tb z c rest)) ∨ (∃ b o, out = .pointer (some ⟨b, 0, none⟩) ∧ Hid (Bld w.heap.size b (enc o) wr) ∧ Hid (tb z 0 rs = o ++ tb z c rest) ∧ o.length ≤ 100 * p.length)))
  case atStart => exact ⟨[], rs, 0, rfl, rfl, rfl, by omega, by simp, hs, Below.refl _ _, .inl ⟨rfl, rfl⟩⟩
  case round =>
    obtain ⟨p, rest, c, HR, rfl, rfl, hg, hcl, hsc, hb, hst⟩ := hrel
    have hbs := hb.size
    have hpr : p.length + rest.length ≤ 500 := by have h := congrArg List.length HR.out; rw [List.length_append] at h; omega
    cases rest with
    | nil =>
      rcases hst with ⟨rfl, hinv⟩ | ⟨b, o, rfl, hbl, hinv, hol⟩
      · go_wp2
        go_ret
        have e := hinv.out
        have e2 := HR.out
        rw [tb_nil, List.append_nil] at e
        rw [List.append_nil] at e2
        exact ⟨by rw [e, ← e2]; rfl, hb⟩
      · go_wp2_with fail
        refine (bld_string w.heap.size b _ _ hbl.out hbs).mono ?_
        rintro e w1 ⟨rfl, _, hb1, _⟩
        go_wp2
        go_ret
        have e := hinv.out
        rw [tb_nil, List.append_nil] at e
        exact ⟨by rw [e]; rfl, hb.trans hb1⟩
    | cons r rest =>
      have hr : Sc r := hsc.head
      have hri := hr.i32
      have hsz := enc_size_pos r rest
      have hple := enc1_size_le r rest
      have hskip := rest_enc r rest
      have htake := head_enc r rest
      rw [List.length_cons] at hg hpr
      have cD := Lib.hid (dec_any r rest wr hr (hT.below hb))
      obtain ⟨g0, rfl⟩ : ∃ m, gk = m + 1 := ⟨gk - 1, by omega⟩
      by_cases h9 : r = 9
      · subst h9
        obtain ⟨m, hm⟩ : ∃ m, c % z = m := ⟨_, rfl⟩
        have hmz : m < z := by rw [← hm]; exact Nat.mod_lt _ (by omega)
        have hri2 : (c : Int) % (z : Int) = (m : Int) := by rw [← hm]; rfl
        obtain ⟨e, he⟩ : ∃ e, z - m = e := ⟨_, rfl⟩
        have hzi : (z : Int) - (m : Int) = (e : Int) := by omega
        have HE : Hid (z - c % z = e) := by show _ = _; rw [hm]; exact he
        have he100 : e ≤ 100 := by omega
        have he1 : 1 ≤ e := by omega
        clear hm he
        rcases hst with ⟨rfl, hinv⟩ | ⟨b, o, rfl, hbl, hinv, hol⟩
        · have cA := Lib.hid fun W (h : w.heap.size ≤ W.heap.size) => HR.out ▸ alloc_any w.heap.size p (9 :: rest) W (by rw [← HR.out]; omega) h
          go_wp2_with (first
            | (go_at_call 56; refine cD.out.mono ?_; rintro e w1 ⟨rfl, hb1⟩)
            | (go_at_call 79; refine (cA.out _ (Nat.le_trans hbs hb1.size)).mono ?_; rintro e w2 ⟨b, rfl, hbl2, hb2⟩))
          have hc1 := hb.trans (hb1.mono hbs)
          have hc2 := hc1.trans hb2
          have hbl3 : Bld w.heap.size b (enc (p ++ List.replicate 0 32)) w2 := by rw [List.replicate_zero, List.append_nil]; exact hbl2
          try rw [hri2]
          clear hri2
          go_loopg [6] (e + 1) (fun gk i wr2 => ∃ k : Nat, k ≤ e ∧ i = .int .i64 k ∧ e - k < gk ∧ Hid (Bld w.heap.size b (enc (p ++ List.replicate k 32)) wr2) ∧ Below w.heap.size w wr2)
          case atStart => exact ⟨0, by omega, rfl, by omega, hbl3, hc2⟩
          case round =>
            obtain ⟨k, hk, rfl, hg2, hblk, hbk⟩ := hrel
            clear hbl2 hbl3 cA
            by_cases hke : k < e
            · obtain ⟨gk, rfl⟩ : ∃ m, gk = m + 1 := ⟨gk - 1, by omega⟩
              have hkl : (enc (p ++ List.replicate k 32)).length + 4 ≤ 140737488355328 := by
                have h := enc_le4 (p ++ List.replicate k 32)
                rw [List.length_append, List.length_replicate] at h
                omega
              go_wp2_with (go_at_call 80; refine (bld_rune w.heap.size b _ 32 _ hblk.out (by unfold Sc; omega) hkl hbk.size).mono ?_; rintro e w2 ⟨rfl, hbl2, hb2, _⟩)
              go_roundg gk
              case rel =>
                refine ⟨k + 1, by omega, by go_num, by omega, ?_, hbk.trans hb2⟩
                show Bld _ _ _ _
                rw [List.replicate_succ', ← List.append_assoc, enc_append _ [32], enc_one]
                exact hbl2
              case measure => omega
            · obtain rfl : k = e := by omega
              go_wp2
              go_roundg g0
              case rel =>
                refine ⟨p ++ [9], rest, c + k, ?_, rfl, by go_num, by omega, by rw [List.length_append, List.length_singleton]; omega, hsc.tail, hbk, .inr ⟨b, p ++ List.replicate k 32, rfl, hblk, ?_, ?_⟩⟩
                · show _ = _
                  rw [HR.out]; simp
                · show _ = _
                  rw [hinv.out, tb_tab, HE.out]; simp
                · rw [List.length_append, List.length_replicate, List.length_append, List.length_singleton]; omega
              case measure => omega
        · have hbl3 : ∀ W, Below wr.heap.size wr W → Bld w.heap.size b (enc (o ++ List.replicate 0 32)) W := fun W hb => by rw [List.replicate_zero, List.append_nil]; exact hbl.out.below hb
          go_wp2_with (go_at_call 56; refine cD.out.mono ?_; rintro e w1 ⟨rfl, hb1⟩)
          have hc1 := hb.trans (hb1.mono hbs)
          try rw [hri2]
          clear hri2
          go_loopg [6] (e + 1) (fun gk i wr2 => ∃ k : Nat, k ≤ e ∧ i = .int .i64 k ∧ e - k < gk ∧ Hid (Bld w.heap.size b (enc (o ++ List.replicate k 32)) wr2) ∧ Below w.heap.size w wr2)
          case atStart => exact ⟨0, by omega, rfl, by omega, hbl3 _ hb1, hc1⟩
          case round =>
            obtain ⟨k, hk, rfl, hg2, hblk, hbk⟩ := hrel
            clear hbl3
            by_cases hke : k < e
            · obtain ⟨gk, rfl⟩ : ∃ m, gk = m + 1 := ⟨gk - 1, by omega⟩
              have hkl : (enc (o ++ List.replicate k 32)).length + 4 ≤ 140737488355328 := by
                have h := enc_le4 (o ++ List.replicate k 32)
                rw [List.length_append, List.length_replicate] at h
                omega
              go_wp2_with (go_at_call 80; refine (bld_rune w.heap.size b _ 32 _ hblk.out (by unfold Sc; omega) hkl hbk.size).mono ?_; rintro e w2 ⟨rfl, hbl2, hb2, _⟩)
              go_roundg gk
              case rel =>
                refine ⟨k + 1, by omega, by go_num, by omega, ?_, hbk.trans hb2⟩
                show Bld _ _ _ _
                rw [List.replicate_succ', ← List.append_assoc, enc_append _ [32], enc_one]
                exact hbl2
              case measure => omega
            · obtain rfl : k = e := by omega
              go_wp2
              go_roundg g0
              case rel =>
                refine ⟨p ++ [9], rest, c + k, ?_, rfl, by go_num, by omega, by rw [List.length_append, List.length_singleton]; omega, hsc.tail, hbk, .inr ⟨b, o ++ List.replicate k 32, rfl, hblk, ?_, ?_⟩⟩
                · show _ = _
                  rw [HR.out]; simp
                · show _ = _
                  rw [hinv.out, tb_tab, HE.out]; simp
                · rw [List.length_append, List.length_replicate, List.length_append, List.length_singleton]; omega
              case measure => omega
      · have h9i : ((r : Int) == 9) = false := by simp; omega
        by_cases h10 : r = 10
        · subst h10
          rcases hst with ⟨rfl, hinv⟩ | ⟨b, o, rfl, hbl, hinv, hol⟩
          · go_wp2_with (go_at_call 56; refine cD.out.mono ?_; rintro e w1 ⟨rfl, hb1⟩)
            go_roundg g0
            case rel =>
              refine ⟨p ++ [10], rest, 0, ?_, rfl, by go_num, by omega, by omega, hsc.tail, hb.trans (hb1.mono hbs), .inl ⟨rfl, ?_⟩⟩
              · show _ = _
                rw [HR.out]; simp
              · show _ = _
                rw [hinv.out, tb_line]; simp
            case measure => omega
          · have hol4 := enc_le4 o
            go_wp2_with (first
              | (go_at_call 56; refine cD.out.mono ?_; rintro e w1 ⟨rfl, hb1⟩)
              | (go_at_call 81; refine (bld_write w.heap.size b _ (enc1 10) _ (hbl.out.below hb1) (by have := enc1_le 10; omega) (Nat.le_trans hbs hb1.size)).mono ?_; rintro e w2 ⟨rfl, hbl2, hb2, _⟩))
            go_roundg g0
            case rel =>
              refine ⟨p ++ [10], rest, 0, ?_, rfl, by go_num, by omega, by omega, hsc.tail, (hb.trans (hb1.mono hbs)).trans hb2, .inr ⟨b, o ++ [10], rfl, ?_, ?_, ?_⟩⟩
              · show _ = _
                rw [HR.out]; simp
              · show Bld _ _ _ _
                rw [enc_append, enc_one]; exact hbl2
              · show _ = _
                rw [hinv.out, tb_line]; simp
              · rw [List.length_append, List.length_singleton, List.length_append, List.length_singleton]; omega
            case measure => omega
        · have h10i : ((r : Int) == 10) = false := by simp; omega
          have hwi := widN_int r
          have hwb := widN_le r
          have cW := Lib.hid fun W => hwi ▸ runeWidth_any r W hri.1 hri.2
          have HT := Lib.hid (tb_other z c r rest h9 h10)
          clear hwi
          generalize widN r = n at *
          rcases hst with ⟨rfl, hinv⟩ | ⟨b, o, rfl, hbl, hinv, hol⟩
          · go_wp2_with (first
              | (go_at_call 56; refine cD.out.mono ?_; rintro e w1 ⟨rfl, hb1⟩)
              | (go_at_call 78; refine (cW.out _).mono ?_; rintro e w2 ⟨rfl, rfl⟩))
            go_roundg g0
            case rel =>
              refine ⟨p ++ [r], rest, c + n, ?_, rfl, by go_num, by omega, by rw [List.length_append, List.length_singleton]; omega, hsc.tail, hb.trans (hb1.mono hbs), .inl ⟨rfl, ?_⟩⟩
              · show _ = _
                rw [HR.out]; simp
              · show _ = _
                rw [hinv.out, HT.out]; simp
            case measure => omega
          · have hol4 := enc_le4 o
            go_wp2_with (first
              | (go_at_call 56; refine cD.out.mono ?_; rintro e w1 ⟨rfl, hb1⟩)
              | (go_at_call 78; refine (cW.out _).mono ?_; rintro e w2 ⟨rfl, rfl⟩)
              | (go_at_call 81; refine (bld_write w.heap.size b _ (enc1 r) _ (hbl.out.below hb1) (by have := enc1_le r; omega) (Nat.le_trans hbs hb1.size)).mono ?_; rintro e w3 ⟨rfl, hbl3, hb3, _⟩))
            go_roundg g0
            case rel =>
              refine ⟨p ++ [r], rest, c + n, ?_, rfl, by go_num, by omega, by rw [List.length_append, List.length_singleton]; omega, hsc.tail, (hb.trans (hb1.mono hbs)).trans hb3, .inr ⟨b, o ++ [r], rfl, ?_, ?_, ?_⟩⟩
              · show _ = _
                rw [HR.out]; simp
              · show Bld _ _ _ _
                rw [enc_append, enc_one]; exact hbl3
              · show _ = _
                rw [hinv.out, HT.out]; simp
              · rw [List.length_append, List.length_singleton, List.length_append, List.length_singleton]; omega
            case measure => omega

end Go.Proofs.YtkaoafhkllomcaaDoor
