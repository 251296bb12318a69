/- The reference's Translate: its walk. -/
import Derived.Test.YtbomlhhpokknaaaDoorTDelV
import Derived.Test.YtbomlhhpokknaaaDoorTRuneL
namespace Go.Proofs.YtbomlhhpokknaaaDoor
open Go.RowKit U8
open Go.Lib hiding intOf

set_option maxHeartbeats 1600000 in
theorem stran_empty (R : Option (List Nat × Bool)) (s p : ByteArray) (w : World) (cD : Calls Tryd.prog 23 #[.string s, .string p] w fun e w' => Below w.heap.size w w' ∧ DelSays R s e) :
    Calls Tryd.prog 16 #[.string s, .string p, .string ⟨#[]⟩] w fun e w' => Below w.heap.size w w' ∧ DelSays R s e := by
  have CD := Lib.hid cD
  clear cD
  go_enter Tryd.func16, Tryd.ntmps16
  go_wp2_with fail
  refine CD.out.mono ?_
  rintro e w1 ⟨hb1, h⟩
  rcases h with ⟨t, rfl⟩ | ⟨L, nt, rs, h1, h2, h3, rfl⟩
  · go_wp2
    go_ret2
    exact ⟨hb1, .inl ⟨t, rfl⟩⟩
  · go_wp2
    go_ret2
    exact ⟨hb1, .inr ⟨L, nt, rs, h1, h2, h3, rfl⟩⟩

/-- What Translate says. -/
def TranSays (φ : Nat → Nat) (G : Nat → Prop) (s : ByteArray) (e : Ending) : Prop :=
  (∃ t, e = .returned (.tuple #[.string t, .int .i64 2])) ∨ ∃ rs, s = txt (enc rs) ∧ Scs rs ∧ (∀ r ∈ rs, G r) ∧ e = .returned (.tuple #[.string (txt (enc (rs.map φ))), .int .i64 1])

set_option maxHeartbeats 3200000 in
set_option maxRecDepth 100000 in
theorem stran_some (R : Option (List Nat × Bool)) (φ : Nat → Nat) (G : Nat → Prop) (s p q : ByteArray) (w : World) (hs : s.size ≤ 2147483647) (hT : Tabs w) (hqe : q.toList.isEmpty = false)
    (cP : ∀ W, Tabs W → Calls Tryd.prog 29 #[.string p, .bool false] W (SetPost R W))
    (cM : ∀ (W : World) (c : Nat), Sc c → Tabs W → Calls Tryd.prog 12 #[.int .i32 c, .string p, .string q] W fun e w' => Below W.heap.size W w' ∧ ∃ (out : Int) (fnd : Bool) (says : Int), e = .returned (.tuple #[.int .i32 out, .bool fnd, .int .i64 says]) ∧ (says = 1 → ∃ y : Nat, out = (y : Int) ∧ Sc y ∧ y = φ c ∧ G c)) :
    Calls Tryd.prog 16 #[.string s, .string p, .string q] w fun e w' => Below w.heap.size w w' ∧ TranSays φ G s e := by
  obtain ⟨i0, hi, hz0, hz1, hz2⟩ := info_parts Tryd.info21
  have CP := Lib.hid cP
  have CM := Lib.hid cM
  clear cP cM
  by_cases hok : validD s.data.toList = false
  · have cS := settled1 s false w hs hT hok
    have CS := Lib.hid cS
    clear cS hok
    go_enter Tryd.func16, Tryd.ntmps16
    go_wp2_with fail
    refine CS.out.mono ?_
    rintro e w3 ⟨rfl, hb3⟩
    go_wp2
    go_ret2
    exact ⟨hb3, .inl ⟨_, rfl⟩⟩
  obtain ⟨rs, hs2, rfl⟩ := text_chars (Bool.not_eq_false _ ▸ hok)
  have hok : validD (txt (enc rs)).data.toList = true := by rw [txt_list]; exact valid_enc rs hs2
  have cS := settled1 (txt (enc rs)) true w hs hT hok
  have CS := Lib.hid cS
  have hrl := enc_length_ge rs
  have hen : (enc rs).length ≤ 2147483647 := by rw [txt_size] at hs; exact hs
  obtain ⟨T, hTx⟩ : ∃ T, txt (enc rs) = T := ⟨_, rfl⟩
  have HTX := Lib.hid hTx
  rw [hTx] at CS ⊢
  clear hTx cS hok hs
  go_enter Tryd.func16, Tryd.ntmps16
  go_wp2_with fail
  refine CS.out.mono ?_
  rintro e w1 ⟨rfl, hb1⟩
  go_wp2_with fail
  refine (CM.out _ 97 (by unfold Sc; omega) (hT.below hb1)).mono ?_
  rintro e w2 ⟨hb2, out, fnd, says, rfl, -⟩
  have hb12 := chain hb1 hb2
  clear hb1 hb2 CS
  have HB12 := Lib.hid hb12
  clear hb12
  by_cases hsy : says = 1
  · subst hsy
    go_upto_region 11 with fail
    have HB3 := HB12
    have hkw := HB3.out.size
    clear HB12 CP
    go_wp2
    have hb0 : Below w2.heap.size w2 (w2.iter T 0) := (Below.refl _ _).alloc (Nat.le_refl _) _
    go_loopg [13] (rs.length + 1) (fun gk v wr => ∃ (done rest : List Nat), Hid (rs = done ++ rest) ∧ wr.heap[w2.heap.size]? = some (.stringIter T (enc done).length) ∧ wr.ownsRow (w2.heap.size + 1) 21 1 v (done.map φ).length (cells (done.map φ)) ∧ rest.length < gk ∧ Scs rest ∧ Scs (done.map φ) ∧ Hid (∀ r ∈ done, G r) ∧ Below w2.heap.size w2 wr)
    case atStart => exact ⟨[], rs, rfl, by simp [World.iter_heap, enc], World.ownsRow_nil _ _ _ _, by omega, hs2, fun x hx => (by cases hx), fun x hx => (by cases hx), hb0⟩
    case round =>
      obtain ⟨done, rest, HR, hit, hrow, hg, hsr, hso, HG, hb⟩ := hrel
      obtain ⟨oo, ocap, rfl⟩ := owns_slice hrow
      have hsz : w2.heap.size < wr.heap.size := (Array.getElem?_eq_some_iff.1 hit).1
      have hpr : done.length + rest.length ≤ rs.length := by have h := congrArg List.length HR.out; rw [List.length_append] at h; omega
      have hol : (done.map φ).length ≤ done.length := by rw [List.length_map]; omega
      have HDM : Hid (done.map φ = done.map φ) := rfl
      generalize hom : done.map φ = o at hrow hso hol
      have HOM := Lib.hid hom
      clear hom HDM
      cases rest with
      | nil =>
        have hp : ¬ (enc done).length < T.size := by rw [← HTX.out, HR.out, List.append_nil, txt_size]; omega
        have hnx := fun ty => @run_next_end_at Tryd.prog wr w2.heap.size _ _ ty hit hp
        have htx := run_text o hso hrow
        have HI2 : Hid (rs = done) := by
          have h := HR.out
          rw [List.append_nil] at h
          exact h
        clear hp hpr
        go_wp2
        go_ret2
        exact ⟨chain HB3.out hb, .inr ⟨rs, HTX.out.symm, hs2, by rw [HI2.out]; exact HG.out, by rw [HI2.out, HOM.out]; rfl⟩⟩
      | cons r rest =>
        have hr := hsr.head
        have hri := hr.i32
        rw [List.length_cons] at hg hpr
        have hnx : ∀ ty, (Instr.next (.pointer (some ⟨w2.heap.size, 0, none⟩)) true ty).run Tryd.prog wr = .ok (.tuple #[.bool true, .int .i64 (enc done).length, .int .i32 r]) (wr.iterAt w2.heap.size T (enc (done ++ [r])).length) := fun ty => by
          have h := next_enc wr w2.heap.size done rest r (by rw [← HR.out, HTX.out]; exact hit) hr ty
          rw [← HR.out, HTX.out] at h
          exact h
        have hit2 := iterAt_heap wr w2.heap.size T _ (enc (done ++ [r])).length hit
        have hsz2 : w2.heap.size < (wr.iterAt w2.heap.size T (enc (done ++ [r])).length).heap.size := by rw [iterAt_size]; exact hsz
        have hb2 := below_iterAt hb (Nat.le_refl _) T (enc (done ++ [r])).length
        have cH := CM.out (wr.iterAt w2.heap.size T (enc (done ++ [r])).length) r hr (hT.below (chain HB3.out hb2))
        have hrow2 := ownsRow_iterAt hrow (k := w2.heap.size) (by omega) T (enc (done ++ [r])).length
        clear hrow
        generalize wr.iterAt w2.heap.size T (enc (done ++ [r])).length = wi at *
        have CH := Lib.hid cH
        obtain ⟨gk, rfl⟩ : ∃ m, gk = m + 1 := ⟨gk - 1, by omega⟩
        have HR2 : Hid (rs = (done ++ [r]) ++ rest) := by show _ = _; rw [HR.out]; simp
        clear hit hb hsz cH HR
        go_wp2_with fail
        refine CH.out.mono ?_
        rintro e w5 ⟨hb5, out, fnd, says, rfl, hsay⟩
        have hs5 := hb5.size
        have hit5 := (hb5.block _ hsz2).trans hit2
        have HB5 := Lib.hid (chain hb2 hb5)
        have HROW := Lib.hid (owns_below hrow2 hb5)
        clear hb5 hit2 hb2 hrow2
        by_cases hsy : says = 1
        · subst hsy
          obtain ⟨y, rfl, hy, hyφ, hGr⟩ := hsay rfl
          have HONE := Lib.hid (one_cell w5 (y : Int))
          have hsz5 : w2.heap.size < w5.heap.size := by omega
          have HYP := Lib.hid hyφ
          have HGR := Lib.hid hGr
          clear hsay hyφ hGr
          go_wp2_with (at_builtin; refine wpList_append_own _ rfl _ _ 49 rfl (w2.heap.size + 1) 21 i0 (.int .i32 0) 1 4 Tryd.underlying49 hi hz0 hz1 hz2 rfl (by decide) (.slice oo o.length ocap) o.length (cells o) rfl (World.ownsRow.alloc HROW.out _) ⟨w5.heap.size, 0, none⟩ 1 1 [.int .i32 y] rfl rfl HONE.out (by intro u hu; simp at hu; subst hu; rfl) (by unfold maxLen; omega) (by omega) (by simp; omega) ?_)
          intro v' w6 hown' hgrow _
          have HN : Hid (w6.heap[w2.heap.size]? = some (.stringIter T (enc (done ++ [r])).length)) := by
            show _ = _
            rw [hgrow.block w2.heap.size (by simp; omega) (fun e => by have := (World.ownsRow.lt HROW.out _ e.symm).1; omega), alloc_old w5 _ _ hsz5]; exact hit5
          have HB6 := Lib.hid ((HB5.out.alloc (by omega) (.cells #[.int .i32 y] 21)).grown hgrow (by simp; omega) (fun k hk => by have := (World.ownsRow.lt HROW.out k hk).1; omega))
          have ho6 : (done ++ [r]).map φ = o ++ [y] := by rw [List.map_append, HOM.out, HYP.out]; rfl
          have HO6 : Hid (w6.ownsRow (w2.heap.size + 1) 21 1 v' ((done ++ [r]).map φ).length (cells ((done ++ [r]).map φ))) := by
            show World.ownsRow _ _ _ _ _ _ _
            rw [ho6, List.length_append, cells_append]; exact hown'
          have HS6 : Hid (Scs ((done ++ [r]).map φ)) := by
            show Scs _
            rw [ho6]
            exact fun x hx => ((List.mem_append.1 hx).elim (fun h => hso x h) (fun h => by simp at h; subst h; exact hy))
          have HG6 : Hid (∀ x ∈ done ++ [r], G x) := fun x hx => (List.mem_append.1 hx).elim (fun h => HG.out x h) (fun h => by simp at h; subst h; exact HGR.out)
          clear hown' hgrow hit5 ho6 hso
          go_wp2
          go_roundg gk
          case rel => exact ⟨done ++ [r], rest, HR2.out, HN.out, HO6.out, by omega, hsr.tail, HS6.out, HG6.out, HB6.out⟩
          case measure => omega
        · have hn : (says != 1) = true := by rw [bne_iff_ne]; exact hsy
          clear hsay hsy
          go_wp2
          go_ret2
          exact ⟨chain HB3.out HB5.out, .inl ⟨_, rfl⟩⟩
  · have hn : (says != 1) = true := by rw [bne_iff_ne]; exact hsy
    have CP2 := Lib.hid (CP.out _ (hT.below HB12.out))
    clear hsy
    go_wp2_with fail
    refine CP2.out.mono ?_
    rintro e w3 ⟨hb3, h⟩
    have HB3 := Lib.hid (chain HB12.out hb3)
    have hk3 := HB3.out.size
    clear hb3
    rcases h with ⟨hR0, ao, n, cp, nb, rfl⟩ | ⟨L, nt, hR, ao, cap, rfl, hown⟩
    · have HB4 := Lib.hid (HB3.out.alloc hk3 (.cells #[.slice ao n cp, .bool nb] 51))
      go_wp2
      go_ret2
      exact ⟨HB4.out, .inl ⟨_, rfl⟩⟩
    · have HB4 := Lib.hid (HB3.out.alloc hk3 (.cells #[.slice ao L.length cap, .bool nt] 51))
      clear hR hown
      cases nt with
      | true =>
        go_wp2
        go_ret2
        exact ⟨HB4.out, .inl ⟨_, rfl⟩⟩
      | false =>
        go_upto_region 11 with fail
        generalize w3.alloc (.cells #[.slice ao L.length cap, .bool false] 51) = w4 at *
        clear HB3 hk3 CP2 HB12 CP
        have HB3 := HB4
        have hkw := HB3.out.size
        go_wp2
        have hb0 : Below w4.heap.size w4 (w4.iter T 0) := (Below.refl _ _).alloc (Nat.le_refl _) _
        go_loopg [13] (rs.length + 1) (fun gk v wr => ∃ (done rest : List Nat), Hid (rs = done ++ rest) ∧ wr.heap[w4.heap.size]? = some (.stringIter T (enc done).length) ∧ wr.ownsRow (w4.heap.size + 1) 21 1 v (done.map φ).length (cells (done.map φ)) ∧ rest.length < gk ∧ Scs rest ∧ Scs (done.map φ) ∧ Hid (∀ r ∈ done, G r) ∧ Below w4.heap.size w4 wr)
        case atStart => exact ⟨[], rs, rfl, by simp [World.iter_heap, enc], World.ownsRow_nil _ _ _ _, by omega, hs2, fun x hx => (by cases hx), fun x hx => (by cases hx), hb0⟩
        case round =>
          obtain ⟨done, rest, HR, hit, hrow, hg, hsr, hso, HG, hb⟩ := hrel
          obtain ⟨oo, ocap, rfl⟩ := owns_slice hrow
          have hsz : w4.heap.size < wr.heap.size := (Array.getElem?_eq_some_iff.1 hit).1
          have hpr : done.length + rest.length ≤ rs.length := by have h := congrArg List.length HR.out; rw [List.length_append] at h; omega
          have hol : (done.map φ).length ≤ done.length := by rw [List.length_map]; omega
          have HDM : Hid (done.map φ = done.map φ) := rfl
          generalize hom : done.map φ = o at hrow hso hol
          have HOM := Lib.hid hom
          clear hom HDM
          cases rest with
          | nil =>
            have hp : ¬ (enc done).length < T.size := by rw [← HTX.out, HR.out, List.append_nil, txt_size]; omega
            have hnx := fun ty => @run_next_end_at Tryd.prog wr w4.heap.size _ _ ty hit hp
            have htx := run_text o hso hrow
            have HI2 : Hid (rs = done) := by
              have h := HR.out
              rw [List.append_nil] at h
              exact h
            clear hp hpr
            go_wp2
            go_ret2
            exact ⟨chain HB3.out hb, .inr ⟨rs, HTX.out.symm, hs2, by rw [HI2.out]; exact HG.out, by rw [HI2.out, HOM.out]; rfl⟩⟩
          | cons r rest =>
            have hr := hsr.head
            have hri := hr.i32
            rw [List.length_cons] at hg hpr
            have hnx : ∀ ty, (Instr.next (.pointer (some ⟨w4.heap.size, 0, none⟩)) true ty).run Tryd.prog wr = .ok (.tuple #[.bool true, .int .i64 (enc done).length, .int .i32 r]) (wr.iterAt w4.heap.size T (enc (done ++ [r])).length) := fun ty => by
              have h := next_enc wr w4.heap.size done rest r (by rw [← HR.out, HTX.out]; exact hit) hr ty
              rw [← HR.out, HTX.out] at h
              exact h
            have hit2 := iterAt_heap wr w4.heap.size T _ (enc (done ++ [r])).length hit
            have hsz2 : w4.heap.size < (wr.iterAt w4.heap.size T (enc (done ++ [r])).length).heap.size := by rw [iterAt_size]; exact hsz
            have hb2 := below_iterAt hb (Nat.le_refl _) T (enc (done ++ [r])).length
            have cH := CM.out (wr.iterAt w4.heap.size T (enc (done ++ [r])).length) r hr (hT.below (chain HB3.out hb2))
            have hrow2 := ownsRow_iterAt hrow (k := w4.heap.size) (by omega) T (enc (done ++ [r])).length
            clear hrow
            generalize wr.iterAt w4.heap.size T (enc (done ++ [r])).length = wi at *
            have CH := Lib.hid cH
            obtain ⟨gk, rfl⟩ : ∃ m, gk = m + 1 := ⟨gk - 1, by omega⟩
            have HR2 : Hid (rs = (done ++ [r]) ++ rest) := by show _ = _; rw [HR.out]; simp
            clear hit hb hsz cH HR
            go_wp2_with fail
            refine CH.out.mono ?_
            rintro e w5 ⟨hb5, out, fnd, says, rfl, hsay⟩
            have hs5 := hb5.size
            have hit5 := (hb5.block _ hsz2).trans hit2
            have HB5 := Lib.hid (chain hb2 hb5)
            have HROW := Lib.hid (owns_below hrow2 hb5)
            clear hb5 hit2 hb2 hrow2
            by_cases hsy : says = 1
            · subst hsy
              obtain ⟨y, rfl, hy, hyφ, hGr⟩ := hsay rfl
              have HONE := Lib.hid (one_cell w5 (y : Int))
              have hsz5 : w4.heap.size < w5.heap.size := by omega
              have HYP := Lib.hid hyφ
              have HGR := Lib.hid hGr
              clear hsay hyφ hGr
              go_wp2_with (at_builtin; refine wpList_append_own _ rfl _ _ 49 rfl (w4.heap.size + 1) 21 i0 (.int .i32 0) 1 4 Tryd.underlying49 hi hz0 hz1 hz2 rfl (by decide) (.slice oo o.length ocap) o.length (cells o) rfl (World.ownsRow.alloc HROW.out _) ⟨w5.heap.size, 0, none⟩ 1 1 [.int .i32 y] rfl rfl HONE.out (by intro u hu; simp at hu; subst hu; rfl) (by unfold maxLen; omega) (by omega) (by simp; omega) ?_)
              intro v' w6 hown' hgrow _
              have HN : Hid (w6.heap[w4.heap.size]? = some (.stringIter T (enc (done ++ [r])).length)) := by
                show _ = _
                rw [hgrow.block w4.heap.size (by simp; omega) (fun e => by have := (World.ownsRow.lt HROW.out _ e.symm).1; omega), alloc_old w5 _ _ hsz5]; exact hit5
              have HB6 := Lib.hid ((HB5.out.alloc (by omega) (.cells #[.int .i32 y] 21)).grown hgrow (by simp; omega) (fun k hk => by have := (World.ownsRow.lt HROW.out k hk).1; omega))
              have ho6 : (done ++ [r]).map φ = o ++ [y] := by rw [List.map_append, HOM.out, HYP.out]; rfl
              have HO6 : Hid (w6.ownsRow (w4.heap.size + 1) 21 1 v' ((done ++ [r]).map φ).length (cells ((done ++ [r]).map φ))) := by
                show World.ownsRow _ _ _ _ _ _ _
                rw [ho6, List.length_append, cells_append]; exact hown'
              have HS6 : Hid (Scs ((done ++ [r]).map φ)) := by
                show Scs _
                rw [ho6]
                exact fun x hx => ((List.mem_append.1 hx).elim (fun h => hso x h) (fun h => by simp at h; subst h; exact hy))
              have HG6 : Hid (∀ x ∈ done ++ [r], G x) := fun x hx => (List.mem_append.1 hx).elim (fun h => HG.out x h) (fun h => by simp at h; subst h; exact HGR.out)
              clear hown' hgrow hit5 ho6 hso
              go_wp2
              go_roundg gk
              case rel => exact ⟨done ++ [r], rest, HR2.out, HN.out, HO6.out, by omega, hsr.tail, HS6.out, HG6.out, HB6.out⟩
              case measure => omega
            · have hn : (says != 1) = true := by rw [bne_iff_ne]; exact hsy
              clear hsay hsy
              go_wp2
              go_ret2
              exact ⟨chain HB3.out HB5.out, .inl ⟨_, rfl⟩⟩

end Go.Proofs.YtbomlhhpokknaaaDoor
