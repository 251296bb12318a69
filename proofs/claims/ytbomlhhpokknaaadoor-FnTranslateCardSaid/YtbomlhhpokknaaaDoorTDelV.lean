/- The reference's Delete with what it says. -/
import Derived.Test.YtbomlhhpokknaaaDoorTSpec
namespace Go.Proofs.YtbomlhhpokknaaaDoor
open Go.RowKit U8
open Go.Lib hiding intOf

def DelSays (R : Option (List Nat × Bool)) (s : ByteArray) (e : Ending) : Prop :=
  (∃ t, e = .returned (.tuple #[.string t, .int .i64 2])) ∨ ∃ L nt rs, R = some (L, nt) ∧ s = txt (enc rs) ∧ Scs rs ∧ e = .returned (.tuple #[.string (txt (enc (rs.filter fun r => !inS L nt r))), .int .i64 1])
set_option maxHeartbeats 1600000 in
set_option maxRecDepth 100000 in
theorem sdel_val (R : Option (List Nat × Bool)) (s p : ByteArray) (w : World) (hs : s.size ≤ 2147483647) (hT : Tabs w) (hRl : ∀ L nt, R = some (L, nt) → L.length ≤ 20000000000000)
    (cP : Calls Tryd.prog 29 #[.string p, .bool false] w (SetPost R w)) :
    Calls Tryd.prog 23 #[.string s, .string p] w fun e w' => Below w.heap.size w w' ∧ DelSays R s e := by
  obtain ⟨i0, hi, hz0, hz1, hz2⟩ := info_parts Tryd.info21
  have CP := Lib.hid cP
  have HRL := Lib.hid hRl
  clear cP hRl
  go_enter Tryd.func23, Tryd.ntmps23
  go_wp2_with fail
  refine CP.out.mono ?_
  rintro e w1 ⟨hb1, h⟩
  have hk1 := hb1.size
  rcases h with ⟨hR0, ao, n, c, nb, rfl⟩ | ⟨L, nt, hR, ao, cap, rfl, hown⟩
  · have HB2 := Lib.hid (hb1.alloc hk1 (.cells #[.slice ao n c, .bool nb] 51))
    clear CP HRL
    go_wp2
    go_ret2
    exact ⟨HB2.out, .inl ⟨_, rfl⟩⟩
  · have hal := HRL.out L nt hR
    have HRR := Lib.hid hR
    have hb2 := hb1.alloc hk1 (.cells #[.slice ao L.length cap, .bool nt] 51)
    have ho2 := World.ownsRow.alloc hown (.cells #[.slice ao L.length cap, .bool nt] 51)
    have hx2 := heap_alloc_new w1 (.cells #[.slice ao L.length cap, .bool nt] 51)
    clear hR hown HRL CP
    go_upto_region 2 with fail
    generalize w1.alloc (.cells #[.slice ao L.length cap, .bool nt] 51) = w2 at *
    generalize w1.heap.size = x0 at *
    have hxn : w.heap.size ≤ x0 := by omega
    have hx2l : x0 < w2.heap.size := (Array.getElem?_eq_some_iff.1 hx2).1
    clear hb1 hk1
    have hk2 := hb2.size
    by_cases hok : validD s.data.toList = false
    · have cS := settled1 s false w2 hs (hT.below hb2) hok
      have CS := Lib.hid cS
      have HB := Lib.hid hb2
      clear cS hb2 ho2 hx2 hx2l hok
      go_wp2_with fail
      refine CS.out.mono ?_
      rintro e w3 ⟨rfl, hb3⟩
      go_wp2
      go_ret2
      exact ⟨chain HB.out hb3, .inl ⟨_, rfl⟩⟩
    obtain ⟨rs, hs2, rfl⟩ := text_chars (Bool.not_eq_false _ ▸ hok)
    have hok : validD (txt (enc rs)).data.toList = true := by rw [txt_list]; exact valid_enc rs hs2
    have cS := settled1 (txt (enc rs)) true w2 hs (hT.below hb2) hok
    have CS := Lib.hid cS
    have hrl := enc_length_ge rs
    have hen : (enc rs).length ≤ 2147483647 := by rw [txt_size] at hs; exact hs
    obtain ⟨T, hTx⟩ : ∃ T, txt (enc rs) = T := ⟨_, rfl⟩
    have HTX := Lib.hid hTx
    rw [hTx] at CS ⊢
    clear hTx cS hok hs
    go_upto_region 2 with fail
    go_wp2_with fail
    refine CS.out.mono ?_
    rintro e w3 ⟨rfl, hb3⟩
    have HX2 := Lib.hid ((hb3.block _ hx2l).trans hx2)
    have HO2 := Lib.hid (owns_below ho2 hb3)
    have HB3 := Lib.hid (chain hb2 hb3)
    have hk3 : x0 < w3.heap.size := by have := hb3.size; omega
    have hkw : w.heap.size ≤ w3.heap.size := by omega
    clear CS hb3 hx2 ho2 hb2 hx2l hk2
    go_wp2
    have hb0 : Below w3.heap.size w3 (w3.iter T 0) := (Below.refl _ _).alloc (Nat.le_refl _) _
    go_loopg [8] (rs.length + 1) (fun gk v wr => ∃ (done rest o : List Nat), Hid (rs = done ++ rest) ∧ wr.heap[w3.heap.size]? = some (.stringIter T (enc done).length) ∧ wr.ownsRow (w3.heap.size + 1) 21 1 v o.length (cells o) ∧ rest.length < gk ∧ Scs rest ∧ Scs o ∧ o.length ≤ done.length ∧ Hid (rs.filter (fun r => !inS L nt r) = o ++ rest.filter (fun r => !inS L nt r)) ∧ Below w3.heap.size w3 wr)
    case atStart => exact ⟨[], rs, [], rfl, by simp [World.iter_heap, enc], World.ownsRow_nil _ _ _ _, by omega, hs2, fun x hx => (by cases hx), Nat.le_refl _, by show _ = _; simp, hb0⟩
    case round =>
      obtain ⟨done, rest, o, HR, hit, hrow, hg, hsr, hso, hml, HI, hb⟩ := hrel
      obtain ⟨oo, ocap, rfl⟩ := owns_slice hrow
      have hsz : w3.heap.size < wr.heap.size := (Array.getElem?_eq_some_iff.1 hit).1
      have hpr : done.length + rest.length ≤ rs.length := by have h := congrArg List.length HR.out; rw [List.length_append] at h; omega
      cases rest with
      | nil =>
        have hp : ¬ (enc done).length < T.size := by rw [← HTX.out, HR.out, List.append_nil, txt_size]; omega
        have hnx := fun ty => @run_next_end_at Tryd.prog wr w3.heap.size _ _ ty hit hp
        have htx := run_text o hso hrow
        have HI2 : Hid (rs.filter (fun r => !inS L nt r) = o) := by
          have h := HI.out
          rw [List.filter_nil, List.append_nil] at h
          exact h
        clear hp hpr HI
        go_wp2
        go_ret2
        exact ⟨chain HB3.out hb, .inr ⟨L, nt, rs, HRR.out, rfl, hs2, by rw [HI2.out]; rfl⟩⟩
      | cons r rest =>
        have hr := hsr.head
        have hri := hr.i32
        rw [List.length_cons] at hg hpr
        have hnx : ∀ ty, (Instr.next (.pointer (some ⟨w3.heap.size, 0, none⟩)) true ty).run Tryd.prog wr = .ok (.tuple #[.bool true, .int .i64 (enc done).length, .int .i32 r]) (wr.iterAt w3.heap.size T (enc (done ++ [r])).length) := fun ty => by
          have h := next_enc wr w3.heap.size done rest r (by rw [← HR.out, HTX.out]; exact hit) hr ty
          rw [← HR.out, HTX.out] at h
          exact h
        have hit2 := iterAt_heap wr w3.heap.size T _ (enc (done ++ [r])).length hit
        have hsz2 : w3.heap.size < (wr.iterAt w3.heap.size T (enc (done ++ [r])).length).heap.size := by rw [iterAt_size]; exact hsz
        have hb2 := below_iterAt hb (Nat.le_refl _) T (enc (done ++ [r])).length
        have cx0 : (wr.iterAt w3.heap.size T (enc (done ++ [r])).length).heap[x0]? = some (.cells #[.slice ao L.length cap, .bool nt] 51 (0, 0)) := (hb2.block _ hk3).trans HX2.out
        have cH := has_any L nt ao cap w.heap.size r (wr.iterAt w3.heap.size T (enc (done ++ [r])).length) (by omega) (owns_below HO2.out hb2)
        have hrow2 := ownsRow_iterAt hrow (k := w3.heap.size) (by omega) T (enc (done ++ [r])).length
        clear hrow
        generalize wr.iterAt w3.heap.size T (enc (done ++ [r])).length = wi at *
        have c0 : wi.cell? ⟨x0, 0, none⟩ = some (.slice ao L.length cap) := by simp [World.cell?, cx0]
        have c1 : wi.cell? ⟨x0, 1, none⟩ = some (.bool nt) := by simp [World.cell?, cx0]
        have hx0 : x0 < wi.heap.size := by omega
        have CH := Lib.hid cH
        obtain ⟨gk, rfl⟩ : ∃ m, gk = m + 1 := ⟨gk - 1, by omega⟩
        have HR2 : Hid (rs = (done ++ [r]) ++ rest) := by show _ = _; rw [HR.out]; simp
        have hif := HI.out
        rw [List.filter_cons] at hif
        clear hit hb hsz cH cx0 HR HI
        cases ho : inS L nt r with
        | true =>
          rw [ho] at CH
          have HI2 : Hid (rs.filter (fun r => !inS L nt r) = o ++ rest.filter (fun r => !inS L nt r)) := by
            show _ = _
            rw [hif, ho]; simp
          clear ho hif
          go_wp2_with fail
          refine CH.out.mono ?_
          rintro e w5 ⟨rfl, hb5⟩
          have hs5 := hb5.size
          have hit5 := (hb5.block _ hsz2).trans hit2
          have HB5 := Lib.hid (chain hb2 hb5)
          have HROW := Lib.hid (owns_below hrow2 hb5)
          clear hb5 hit2 hb2 c0 c1 hrow2
          go_wp2
          go_roundg gk
          case rel => exact ⟨done ++ [r], rest, o, HR2.out, hit5, HROW.out, by omega, hsr.tail, hso, by simp; omega, HI2.out, HB5.out⟩
          case measure => omega
        | false =>
          rw [ho] at CH
          have HI2 : Hid (rs.filter (fun r => !inS L nt r) = (o ++ [r]) ++ rest.filter (fun r => !inS L nt r)) := by
            show _ = _
            rw [hif, ho]; simp
          clear ho hif
          go_wp2_with fail
          refine CH.out.mono ?_
          rintro e w5 ⟨rfl, hb5⟩
          have hs5 := hb5.size
          have hit5 := (hb5.block _ hsz2).trans hit2
          have HB5 := Lib.hid (chain hb2 hb5)
          have HROW := Lib.hid (owns_below hrow2 hb5)
          have HONE := Lib.hid (one_cell w5 (r : Int))
          have hsz5 : w3.heap.size < w5.heap.size := by omega
          clear hb5 hit2 hb2 c0 c1 hrow2
          go_wp2_with (at_builtin; refine wpList_append_own _ rfl _ _ 49 rfl (w3.heap.size + 1) 21 i0 (.int .i32 0) 1 4 Tryd.underlying49 hi hz0 hz1 hz2 rfl (by decide) (.slice oo o.length ocap) o.length (cells o) rfl (World.ownsRow.alloc HROW.out _) ⟨w5.heap.size, 0, none⟩ 1 1 [.int .i32 r] rfl rfl HONE.out (by intro u hu; simp at hu; subst hu; rfl) (by unfold maxLen; omega) (by omega) (by simp; omega) ?_)
          intro v' w6 hown' hgrow _
          have HN : Hid (w6.heap[w3.heap.size]? = some (.stringIter T (enc (done ++ [r])).length)) := by
            show _ = _
            rw [hgrow.block w3.heap.size (by simp; omega) (fun e => by have := (World.ownsRow.lt HROW.out _ e.symm).1; omega), alloc_old w5 _ _ hsz5]; exact hit5
          have HB6 := Lib.hid ((HB5.out.alloc (by omega) (.cells #[.int .i32 r] 21)).grown hgrow (by simp; omega) (fun k hk => by have := (World.ownsRow.lt HROW.out k hk).1; omega))
          have HO6 : Hid (w6.ownsRow (w3.heap.size + 1) 21 1 v' (o ++ [r]).length (cells (o ++ [r]))) := by
            show World.ownsRow _ _ _ _ _ _ _
            rw [List.length_append, cells_append]; exact hown'
          clear hown' hgrow hit5
          go_wp2
          go_roundg gk
          case rel =>
            exact ⟨done ++ [r], rest, o ++ [r], HR2.out, HN.out, HO6.out, by omega, hsr.tail, fun x hx => ((List.mem_append.1 hx).elim (fun h => hso x h) (fun h => by simp at h; subst h; exact hr)), by simp; omega, HI2.out, HB6.out⟩
          case measure => omega

end Go.Proofs.YtbomlhhpokknaaaDoor
