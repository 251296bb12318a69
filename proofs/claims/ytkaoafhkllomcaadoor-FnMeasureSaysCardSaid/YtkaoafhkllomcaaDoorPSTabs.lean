/- The reference's ExpandTabs: its contracts. -/
import Derived.Test.YtkaoafhkllomcaaDoorPFill
namespace Go.Proofs.YtkaoafhkllomcaaDoor
open Go.RowKit U8
open Go.Lib hiding intOf

set_option maxHeartbeats 3200000 in
set_option maxRecDepth 100000 in
theorem stabs_any (rs : List Nat) (z : Nat) (w : World) (hs : Scs rs) (hl : (enc rs).length ≤ 500) (hz : 1 ≤ z) (hz2 : z ≤ 100) (hT : Tabs w) :
    Calls Tryd.prog 16 #[.string (txt (enc rs)), .int .i64 z] w fun e w' => (rs.any opn = true → e = .returned (.tuple #[.string ⟨#[]⟩, .int .i64 2])) ∧ (rs.any opn = false → e = .returned (.tuple #[.string (txt (enc (tb z 0 rs))), .int .i64 1])) ∧ Below w.heap.size w w' := by
  have hrl := enc_length_ge rs
  have hrs5 : rs.length ≤ 500 := by omega
  have cS := Lib.hid fun W (h : Tabs W) => settled1 (txt (enc rs)) true W (by rw [txt_size]; omega) h (by rw [txt_list]; exact valid_enc rs hs)
  obtain ⟨T, hTx⟩ : ∃ T, txt (enc rs) = T := ⟨_, rfl⟩
  have HTX := Lib.hid hTx
  obtain ⟨Q, hQ⟩ : ∃ Q, tb z 0 rs = Q := ⟨_, rfl⟩
  have HQ := Lib.hid hQ.symm
  rw [hTx] at cS ⊢
  rw [hQ]
  clear hTx hQ
  go_enter Tryd.func16, Tryd.ntmps16
  go_wp2_with fail
  refine (cS.out _ hT).mono ?_
  rintro e w1 ⟨rfl, hb1⟩
  go_wp2
  have hk1 := hb1.size
  have hb0 : Below w.heap.size w (w1.iter T 0) := hb1.alloc hk1 _
  go_loopg [6, 7] (rs.length + 1) (fun gk out col wr => ∃ (done rest o : List Nat) (c : Nat), Hid (rs = done ++ rest) ∧ wr.heap[w1.heap.size]? = some (.stringIter T (enc done).length) ∧ out = .string (txt (enc o)) ∧ col = .int .i64 c ∧ rest.length < gk ∧ Scs rest ∧ Hid (done.any opn = false) ∧ Hid (Q = o ++ tb z c rest) ∧ c ≤ 100 * done.length ∧ o.length ≤ 100 * done.length ∧ Below w.heap.size w wr)
  case atStart => exact ⟨[], rs, [], 0, rfl, by simp [World.iter_heap, enc], rfl, rfl, by omega, hs, rfl, HQ.out, by simp, by simp, hb0⟩
  case round =>
    obtain ⟨done, rest, o, c, HR, hit, rfl, rfl, hg, hsr, HO, HI, hcl, hol, hb⟩ := hrel
    have hsz : w1.heap.size < wr.heap.size := (Array.getElem?_eq_some_iff.1 hit).1
    have hpr : done.length + rest.length = rs.length := by have h := congrArg List.length HR.out; rw [List.length_append] at h; omega
    have hoe := enc_le4 o
    cases rest with
    | nil =>
      have hp : ¬ (enc done).length < T.size := by rw [← HTX.out, HR.out, List.append_nil, txt_size]; omega
      have hnx := fun ty => @run_next_end_at Tryd.prog wr w1.heap.size _ _ ty hit hp
      have e := HR.out
      rw [List.append_nil] at e
      have HE := Lib.hid e
      have e2 := HI.out
      rw [tb_nil, List.append_nil] at e2
      have HE2 := Lib.hid e2
      clear hp e e2 hpr
      go_wp2
      go_ret2
      refine ⟨fun h => ?_, fun _ => ?_, hb⟩
      · rw [HE.out, HO.out] at h; cases h
      · rw [HE2.out]; rfl
    | cons r rest =>
      have hr := hsr.head
      have hri := hr.i32
      rw [List.length_cons] at hg hpr
      have hnx : ∀ ty, (Instr.next (.pointer (some ⟨w1.heap.size, 0, none⟩)) true ty).run Tryd.prog wr = .ok (.tuple #[.bool true, .int .i64 (enc done).length, .int .i32 r]) (wr.iterAt w1.heap.size T (enc (done ++ [r])).length) := fun ty => by
        have h := next_enc wr w1.heap.size done rest r (by rw [← HR.out, HTX.out]; exact hit) hr ty
        rw [← HR.out, HTX.out] at h
        exact h
      have hit2 := iterAt_heap wr w1.heap.size T _ (enc (done ++ [r])).length hit
      have hb2 := below_iterAt hb hk1 T (enc (done ++ [r])).length
      have hsz2 : w1.heap.size < (wr.iterAt w1.heap.size T (enc (done ++ [r])).length).heap.size := by rw [iterAt_size]; exact hsz
      generalize wr.iterAt w1.heap.size T (enc (done ++ [r])).length = wi at *
      obtain ⟨gk, rfl⟩ : ∃ m, gk = m + 1 := ⟨gk - 1, by omega⟩
      have HR2 : Hid (rs = (done ++ [r]) ++ rest) := by show _ = _; rw [HR.out]; simp
      have hos := txt_size (enc o)
      clear hit hb hsz
      by_cases h9 : r = 9
      · subst h9
        obtain ⟨m, hm⟩ : ∃ m, c % z = m := ⟨_, rfl⟩
        have hmz : m < z := by rw [← hm]; exact Nat.mod_lt _ (by omega)
        have hri2 : (c : Int) % (z : Int) = (m : Int) := by rw [← hm]; rfl
        obtain ⟨e, he⟩ : ∃ e, z - m = e := ⟨_, rfl⟩
        have hzi : (z : Int) - (m : Int) = (e : Int) := by omega
        have he100 : e ≤ 100 := by omega
        have HI2 : Hid (Q = (o ++ List.replicate e 32) ++ tb z (c + e) rest) := by show _ = _; rw [HI.out, tb_tab, hm, he, List.append_assoc]
        have HO2 : Hid ((done ++ [9]).any opn = false) := by show _ = _; rw [List.any_append, HO.out]; rfl
        have cF := Lib.hid fun W => fill_sp e W (by omega)
        have happ : txt (enc o) ++ txt (enc (List.replicate e 32)) = txt (enc (o ++ List.replicate e 32)) := by rw [enc_append, txt_append]
        have hfe := enc_le4 (List.replicate e 32)
        rw [List.length_replicate] at hfe
        have hcat : (txt (enc o)).size + (txt (enc (List.replicate e 32))).size ≤ 10000000 := by rw [txt_size, txt_size]; omega
        clear hm he hfe
        go_wp2_with (go_at_call 52; refine (cF.out _).mono ?_; rintro e9 w5 ⟨rfl, hb5⟩)
        go_roundg gk
        case rel =>
          refine ⟨done ++ [9], rest, _, c + e, HR2.out, (hb5.block _ hsz2).trans hit2, rfl, by go_num, by omega, hsr.tail, HO2.out, HI2.out, ?_, ?_, hb2.trans (hb5.mono hb2.size)⟩
          · simp only [List.length_append, List.length_singleton]; omega
          · simp only [List.length_append, List.length_singleton, List.length_replicate]; omega
        case measure => omega
      have n9 : ((r : Int) == 9) = false := by simp; omega
      by_cases h10 : r = 10
      · subst h10
        have HI2 : Hid (Q = (o ++ [10]) ++ tb z 0 rest) := by show _ = _; rw [HI.out, tb_line]; simp
        have HO2 : Hid ((done ++ [10]).any opn = false) := by show _ = _; rw [List.any_append, HO.out]; rfl
        have happ : txt (enc o) ++ (⟨#[10]⟩ : ByteArray) = txt (enc (o ++ [10])) := by rw [enc_append, ← txt_append]; rfl
        clear h9
        go_wp2
        go_roundg gk
        case rel =>
          refine ⟨done ++ [10], rest, _, 0, HR2.out, hit2, rfl, rfl, by omega, hsr.tail, HO2.out, HI2.out, by omega, ?_, hb2⟩
          simp only [List.length_append, List.length_singleton]; omega
        case measure => omega
      have n10 : ((r : Int) == 10) = false := by simp; omega
      cases ho : opn r with
      | true =>
        have c1 := Lib.hid fun W => srw_open r W hr ho
        have HANY : Hid (rs.any opn = true) := by show _ = _; rw [HR.out, List.any_append, List.any_cons, ho]; simp
        clear ho h9 h10
        go_wp2_with (go_at_call 51; refine (c1.out _).mono ?_; rintro e w5 ⟨rfl, hw5⟩; obtain rfl := hw5.symm)
        go_ret2
        refine ⟨fun _ => rfl, fun h => ?_, hb2⟩
        rw [HANY.out] at h; cases h
      | false =>
        have c1 := Lib.hid fun W => srw_yes r W hr ho
        have HO2 : Hid ((done ++ [r]).any opn = false) := by show _ = _; rw [List.any_append, HO.out, List.any_cons, ho]; rfl
        have HI2 : Hid (Q = (o ++ [r]) ++ tb z (c + widN r) rest) := by show _ = _; rw [HI.out, tb_other z c r rest h9 h10]; simp
        have happ : txt (enc o) ++ Utf8.encode (r : Int) = txt (enc (o ++ [r])) := by rw [encode_enc1 r hr, txt_append, enc_append, enc_one]
        have hcat : (txt (enc o)).size + (Utf8.encode (r : Int)).size ≤ 10000000 := by
          have := enc1_le r
          rw [encode_enc1 r hr, txt_size, txt_size]; omega
        have hwr := widN_le r
        clear ho h9 h10
        go_wp2_with (go_at_call 51; refine (c1.out _).mono ?_; rintro e w5 ⟨rfl, hw5⟩; obtain rfl := hw5.symm)
        go_roundg gk
        case rel =>
          refine ⟨done ++ [r], rest, _, c + widN r, HR2.out, hit2, rfl, by go_num, by omega, hsr.tail, HO2.out, HI2.out, ?_, ?_, hb2⟩
          · simp only [List.length_append, List.length_singleton]; omega
          · simp only [List.length_append, List.length_singleton]; omega
        case measure => omega
theorem stabs_no (s : ByteArray) (z : Int) (w : World) (hz : z ≤ 0) :
    Calls Tryd.prog 16 #[.string s, .int .i64 z] w fun e w' => e = .returned (.tuple #[.string ⟨#[]⟩, .int .i64 0]) ∧ w' = w := by
  go_enter Tryd.func16, Tryd.ntmps16
  go_wp2
  go_ret2
  exact ⟨rfl, rfl⟩
theorem stabs_bad (s : ByteArray) (z : Int) (w : World) (hz : 1 ≤ z) (hs : s.size ≤ 2147483647) (hv : validD s.data.toList = false) (hT : Tabs w) :
    Calls Tryd.prog 16 #[.string s, .int .i64 z] w fun e w' => e = .returned (.tuple #[.string ⟨#[]⟩, .int .i64 2]) ∧ Below w.heap.size w w' := by
  have cS := Lib.hid fun W (h : Tabs W) => settled1 s false W hs h hv
  clear hv
  go_enter Tryd.func16, Tryd.ntmps16
  go_wp2_with fail
  refine (cS.out _ hT).mono ?_
  rintro e w1 ⟨rfl, hb1⟩
  go_wp2
  go_ret2
  exact ⟨rfl, hb1⟩

end Go.Proofs.YtkaoafhkllomcaaDoor
