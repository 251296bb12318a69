/- The law FnScrub: its walk. -/
import Derived.Test.YtodablchamiaeaaDoorScrub
namespace Go.Proofs.YtodablchamiaeaaDoor
open Go.RowKit U8
open Go.Lib hiding intOf

/-- A character as a list of one, turned into a text. -/
theorem run_one_text (r : Nat) (h : Sc r) (W : World) :
    (convert 24 9 (.slice (some ⟨W.heap.size, 0, none⟩) 1 1)).run Tryd.prog (W.alloc (.cells #[.int .i32 (r : Int)] 21)) = .ok (.string (txt (enc1 r))) (W.alloc (.cells #[.int .i32 (r : Int)] 21)) := by
  rw [run_convert_runes _ _ _ 21 ⟨W.heap.size, 0, none⟩ 1 1 [(r : Int)] (by simp) Tryd.underlying24 Tryd.underlying21 Tryd.underlying9]
  · have := runesBytes_enc [r] (fun x hx => by simp at hx; subst hx; exact h)
    rw [enc_one] at this
    simpa using this
  · intro j hj
    simp at hj
    subst hj
    simp [Addr.add]

theorem txt_mid (p a rest : List UInt8) : (txt (p ++ (a ++ rest))).extract p.length (p.length + a.length) = txt a := by
  rw [txt_extract, ← List.append_assoc, List.take_append_of_le_length (by simp), ← List.length_append, List.take_length, List.drop_left]
/-- What the iterator over a text hands over. -/
theorem next_part (W : World) (k : Nat) (p a rest : List UInt8) (r : Nat) (hk : W.heap[k]? = some (.stringIter (txt (p ++ (a ++ rest))) p.length)) (ha : a ≠ []) (hd : decodeL (a ++ rest) = (r, a.length)) (ty : TypeId) :
    (Instr.next (.pointer (some ⟨k, 0, none⟩)) true ty).run Tryd.prog W = .ok (.tuple #[.bool true, .int .i64 p.length, .int .i32 r]) (W.iterAt k (txt (p ++ (a ++ rest))) (p ++ a).length) := by
  have hl : 0 < a.length := List.length_pos_iff.2 ha
  have hdec : Utf8.decode (txt (p ++ (a ++ rest))) p.length = (r, a.length) := by
    rw [← decodeL_drop, txt_list, List.drop_left]; exact hd
  rw [run_next_any_at W k _ _ ty hk (by rw [txt_size, List.length_append, List.length_append]; omega), hdec, List.length_append]

set_option maxHeartbeats 1600000 in
set_option maxRecDepth 100000 in
theorem law_scrub (s q : ByteArray) (w : World) (hsz : s.size ≤ 140737488351232) (hqz : q.size ≤ 140737488351232) (hT : Tabs w) :
    Calls Tryd.prog 5 #[.string s, .string q] w fun e w' => e = .returned (.bool true) ∧ Below w.heap.size w w' := by
  by_cases hbig : 2147483647 < s.size
  · go_enter Tryd.func5, Tryd.ntmps5
    go_wp2
    go_ret
    exact ⟨rfl, Below.refl _ _⟩
  have hle : s.size ≤ 2147483647 := by omega
  by_cases hbig2 : 2147483647 < q.size
  · go_enter Tryd.func5, Tryd.ntmps5
    go_wp2
    go_ret
    exact ⟨rfl, Below.refl _ _⟩
  have hle2 : q.size ≤ 2147483647 := by omega
  clear hbig hbig2 hsz hqz
  by_cases hs4 : 4096 < s.size
  · go_enter Tryd.func5, Tryd.ntmps5
    go_wp2_with (first
      | (go_at_call 21; refine (scrub_ab _ hT).mono ?_; rintro e w1 ⟨rfl, hb1⟩)
      | go_in)
    go_ret
    exact ⟨rfl, hb1⟩
  by_cases hq4 : 4096 < q.size
  · go_enter Tryd.func5, Tryd.ntmps5
    go_wp2_with (first
      | (go_at_call 21; refine (scrub_ab _ hT).mono ?_; rintro e w1 ⟨rfl, hb1⟩)
      | go_in)
    go_ret
    exact ⟨rfl, hb1⟩
  by_cases hs5 : 500 < s.size
  · go_enter Tryd.func5, Tryd.ntmps5
    go_wp2_with (first
      | (go_at_call 21; refine (scrub_ab _ hT).mono ?_; rintro e w1 ⟨rfl, hb1⟩)
      | go_in)
    go_ret
    exact ⟨rfl, hb1⟩
  obtain ⟨l, rfl⟩ : ∃ l, s = txt l := ⟨s.data.toList, (list_txt s).symm⟩
  obtain ⟨repl, rfl⟩ : ∃ l, q = txt l := ⟨q.data.toList, (list_txt q).symm⟩
  have hl : l.length ≤ 500 := by rw [txt_size] at hs5; omega
  have hr : repl.length ≤ 4096 := by rw [txt_size] at hq4; omega
  obtain ⟨R, hRR⟩ : ∃ R, scr repl false l = R := ⟨_, rfl⟩
  have hR : R.length ≤ 10000000 := by
    have h1 := scr_len repl l.length false l (Nat.le_refl _)
    have h2 := Nat.mul_le_mul hl (show repl.length + 1 ≤ 4097 by omega)
    rw [hRR] at h1
    omega
  have cI := Lib.hid fun W (h : Tabs W) => hRR ▸ implScrub_any l repl W (by omega) (by omega) (by rw [hRR]; omega) h
  have cS := Lib.hid fun W (h : Tabs W) => hRR ▸ specScrub_any l repl W (by rw [hRR]; omega) h
  have HRR := Lib.hid hRR
  have hs5' : (txt l).size ≤ 500 := by omega
  have hq4' : (txt repl).size ≤ 4096 := by omega
  clear hRR hs5 hs4 hq4 hle hle2
  go_enter Tryd.func5, Tryd.ntmps5
  go_wp2_with (first
      | (go_at_call 21; refine (scrub_ab _ hT).mono ?_; rintro e w1 ⟨rfl, hb1⟩)
      | go_in)
  have hk1 := hb1.size
  have hb0 : Below w.heap.size w (w1.iter (txt l) 0) := hb1.alloc hk1 _
  go_loopg [5, 6] (l.length + 1) (fun gk out bad wr => ∃ (p rest o : List UInt8) (bd : Bool), Hid (l = p ++ rest) ∧ wr.heap[w1.heap.size]? = some (.stringIter (txt l) p.length) ∧ out = .string (txt o) ∧ bad = .bool bd ∧ rest.length < gk ∧ Hid (R = o ++ scr repl bd rest) ∧ Below w.heap.size w wr)
  case atStart => exact ⟨[], l, [], false, rfl, World.iter_heap _ _ _, rfl, rfl, by omega, HRR.out.symm, hb0⟩
  case round =>
    obtain ⟨p, rest, o, bd, hrs, hit, rfl, rfl, hg, hinv, hb⟩ := hrel
    have hsz : w1.heap.size < wr.heap.size := (Array.getElem?_eq_some_iff.1 hit).1
    by_cases hne : rest = []
    · subst hne
      have hp : ¬ p.length < (txt l).size := by rw [hrs.out, List.append_nil, txt_size]; omega
      have hnx := fun ty => @run_next_end_at Tryd.prog wr w1.heap.size _ _ ty hit hp
      have e := hinv.out
      rw [scr_nil, List.append_nil] at e
      subst e
      clear hp
      go_wp2_with fail
      refine (cI.out _ (hT.below hb)).mono ?_
      rintro e w2 ⟨rfl, hb2⟩
      have hc := hb.trans (hb2.mono hb.size)
      go_wp2_with fail
      refine (cS.out _ (hT.below hc)).mono ?_
      rintro e w3 ⟨rfl, hb3⟩
      have hc2 := hc.trans (hb3.mono hc.size)
      go_wp2
      go_ret
      exact ⟨by simp, hc2⟩
    · obtain ⟨a, rest, r, rfl, ha, hd, hsc, hea⟩ := first_part rest hne
      have hri := hsc.i32
      have hal : 0 < a.length := List.length_pos_iff.2 ha
      rw [List.length_append] at hg
      obtain ⟨gk, rfl⟩ : ∃ m, gk = m + 1 := ⟨gk - 1, by omega⟩
      have hl2 : l = p ++ (a ++ rest) := hrs.out
      have hnx : ∀ ty, (Instr.next (.pointer (some ⟨w1.heap.size, 0, none⟩)) true ty).run Tryd.prog wr = .ok (.tuple #[.bool true, .int .i64 p.length, .int .i32 r]) (wr.iterAt w1.heap.size (txt l) (p ++ a).length) := fun ty => by
        have := next_part wr w1.heap.size p a rest r (hl2 ▸ hit) ha hd ty
        rw [← hl2] at this
        exact this
      have hit2 := iterAt_heap wr w1.heap.size (txt l) _ (p ++ a).length hit
      have hb2 := below_iterAt hb hk1 (txt l) (p ++ a).length
      have hsz2 : w1.heap.size < (wr.iterAt w1.heap.size (txt l) (p ++ a).length).heap.size := by rw [iterAt_size]; exact hsz
      generalize wr.iterAt w1.heap.size (txt l) (p ++ a).length = wi at *
      have HD := Lib.hid hd
      have HA := Lib.hid ha
      have HL := Lib.hid hl2
      clear hd hne ha hl2 hit hb
      by_cases hrr : r = 65533
      · subst hrr
        have hinv2 := hinv.out
        rw [scr_bad repl a rest bd HA.out HD.out] at hinv2
        have hln := congrArg List.length hinv2
        have HI := Lib.hid hinv2
        clear hinv2 hinv hea
        cases bd
        · have hcat : (txt o).size + (txt repl).size ≤ 200000000000 := by
            rw [txt_size, txt_size]; simp at hln; omega
          have happ := txt_append o repl
          clear hln
          go_wp2
          go_roundg gk
          case rel =>
            refine ⟨p ++ a, rest, o ++ repl, true, ?_, hit2, rfl, rfl, by omega, ?_, hb2⟩
            · show _ = _
              rw [HL.out]; simp
            · show _ = _
              rw [HI.out]; simp
          case measure => omega
        · clear hln
          go_wp2
          go_roundg gk
          case rel =>
            refine ⟨p ++ a, rest, o, true, ?_, hit2, rfl, rfl, by omega, ?_, hb2⟩
            · show _ = _
              rw [HL.out]; simp
            · show _ = _
              rw [HI.out]; simp
          case measure => omega
      · have hrz : ((r : Int) == 65533) = false := by simp; omega
        have hinv2 := hinv.out
        rw [scr_ok repl a rest bd r HA.out hrr HD.out] at hinv2
        have hln := congrArg List.length hinv2
        have HI := Lib.hid hinv2
        have HE := Lib.hid (hea hrr)
        have hcat : (txt o).size + (txt a).size ≤ 200000000000 := by
          rw [txt_size, txt_size]; simp at hln; omega
        have happ := txt_append o a
        have hconv := run_one_text r hsc wi
        rw [← HE.out] at hconv
        have hsa := txt_size a
        have hll : p.length + a.length ≤ 500 := by have h := congrArg List.length HL.out; rw [List.length_append, List.length_append] at h; omega
        have hpl : p.length + a.length ≤ (txt l).size := by rw [HL.out, txt_size, List.length_append, List.length_append]; omega
        have hcut : (txt l).extract p.length (p.length + a.length) = txt a := by
          have h := txt_mid p a rest
          rw [← HL.out] at h
          exact h
        have hsl : ∀ W, (Instr.slice 9 (.string (txt l)) (some (.int .i64 p.length)) (some (.int .i64 ((p.length : Int) + a.length))) none).run Tryd.prog W = .ok (.string (txt a)) W := fun W => by
          have h := run_slice_string (P := Tryd.prog) W 9 (txt l) .i64 .i64 p.length ((p.length : Int) + a.length) Tryd.underlying9 (by omega) (by omega) (by omega)
          rw [show ((p.length : Int) + a.length).toNat = p.length + a.length by omega, show (p.length : Int).toNat = p.length by omega, hcut] at h
          exact h
        clear hinv2 hinv hln hrr hea
        go_wp2
        go_roundg gk
        case rel =>
          refine ⟨p ++ a, rest, o ++ a, false, ?_, ?_, rfl, rfl, by omega, ?_, hb2.alloc hb2.size _⟩
          · show _ = _
            rw [HL.out]; simp
          · rw [alloc_old wi _ _ hsz2]; exact hit2
          · show _ = _
            rw [HI.out]; simp
        case measure => omega

end Go.Proofs.YtodablchamiaeaaDoor
