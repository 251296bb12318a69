/- The reference's SwapCase and WordSplit at any text. -/
import Derived.Test.YthanbbflemkomaaDoorNWord
namespace Go.Proofs.YthanbbflemkomaaDoor
open Go.RowKit U8
open Go.Lib hiding intOf

def finS (zs : List Int) (rest : List Nat) : List UInt8 × Int :=
  match rest with
  | [] => (zs.flatMap encodeRune, 1)
  | r :: rs => match cs true true (r : Int) with
    | none => ([], 2)
    | some z => finS (zs ++ [z]) rs
theorem finS_sw : ∀ (rest : List Nat) (zs : List Int), (finS zs rest).2 = 1 → (finS zs rest).1 = (zs ++ rest.map fun (r : Nat) => swR (r : Int)).flatMap encodeRune
  | [], zs, _ => by simp [finS]
  | r :: rs, zs, h => by
    unfold finS at h ⊢
    cases hc : cs true true (r : Int) with
    | none => rw [hc] at h; cases h
    | some z =>
      rw [hc] at h
      have := finS_sw rs (zs ++ [z]) h
      rw [this, cs_sw hc, List.map_cons, List.append_assoc]; rfl
theorem finS_two : ∀ (rest : List Nat) (zs : List Int), (finS zs rest).2 = 1 ∨ (finS zs rest).2 = 2
  | [], zs => .inl rfl
  | r :: rs, zs => by
    unfold finS
    cases hc : cs true true (r : Int) with
    | none => exact .inr rfl
    | some z => exact finS_two rs (zs ++ [z])
/-- What spec.SwapCase tells. -/
def ssR (l : List UInt8) : List UInt8 × Int := if validD l then finS [] (rns l) else ([], 2)
theorem ssR_sw (l : List UInt8) (h : (ssR l).2 = 1) : (ssR l).1 = swU l := by
  unfold ssR at h ⊢
  by_cases hv : validD l = true
  · rw [if_pos hv] at h ⊢
    rw [finS_sw _ _ h]
    unfold swU
    rw [List.nil_append, List.flatMap_map]
  · rw [if_neg hv] at h
    cases h
theorem Tryd.info21 : (Tryd.prog.info? 21).map (fun i => (i.zero, i.size, i.bytes)) = some (some (.int .i32 0), 1, 4) := by kernel_rfl
theorem next_enc (W : World) (k : Nat) (done rest : List Nat) (r : Nat) (hk : W.heap[k]? = some (.stringIter (txt (enc (done ++ r :: rest))) (enc done).length)) (hr : Sc r) (ty : TypeId) :
    (Instr.next (.pointer (some ⟨k, 0, none⟩)) true ty).run Tryd.prog W = .ok (.tuple #[.bool true, .int .i64 (enc done).length, .int .i32 r]) (W.iterAt k (txt (enc (done ++ r :: rest))) (enc (done ++ [r])).length) := by
  have h := next_part W k (enc done) (enc1 r) (enc rest) r (by rw [enc_append, enc_cons] at hk; exact hk) (enc1_ne r) (decode_enc r rest hr) ty
  rw [← enc_cons, ← enc_append, show enc done ++ enc1 r = enc (done ++ [r]) by rw [enc_append, enc_one]] at h
  exact h
set_option maxHeartbeats 3200000 in
set_option maxRecDepth 100000 in
theorem sswap_any (l : List UInt8) (w : World) (hl : l.length ≤ 900000) (hT : Ft w) :
    Calls Tryd.prog 27 #[.string (txt l)] w fun e w' => e = .returned (.tuple #[.string (txt (ssR l).1), .int .i64 (ssR l).2]) ∧ Below w.heap.size w w' := by
  obtain ⟨i0, hi, hz0, hz1, hz2⟩ := info_parts Tryd.info21
  obtain ⟨F, hF⟩ : ∃ F, ssR l = F := ⟨_, rfl⟩
  rw [hF]
  have hts := txt_size l
  cases hv : validD l with
  | false =>
    have HF : Hid (F = ([], 2)) := by show _ = _; rw [← hF]; unfold ssR; rw [hv]; rfl
    have CV := Lib.hid (settled1 (txt l) false w (by omega) (by rw [txt_list]; exact hv) hT)
    clear hF hv
    go_enter Tryd.func27, Tryd.ntmps27
    go_wp2_with fail
    refine CV.out.mono ?_
    rintro e w1 ⟨rfl, hb1⟩
    have HB1 := Lib.hid hb1
    clear hb1
    go_wp2
    go_ret2
    exact ⟨by rw [HF.out]; rfl, HB1.out⟩
  | true =>
  obtain ⟨rs, hs, he⟩ := text_chars (s := txt l) (by rw [txt_list]; exact hv)
  have CV := Lib.hid (settled1 (txt l) true w (by omega) (by rw [txt_list]; exact hv) hT)
  have hl2 : l = enc rs := by
    have := congrArg (fun s : ByteArray => s.data.toList) he
    simpa [txt_list] using this
  subst hl2
  unfold ssR at hF
  rw [hv, if_pos rfl, rns_enc rs hs] at hF
  have HF := Lib.hid hF.symm
  have hrl : rs.length ≤ 900000 := by have := enc_length_ge rs; omega
  have HT := Lib.hid hT
  have HS := Lib.hid hs
  clear hv he hF hT hs
  go_enter Tryd.func27, Tryd.ntmps27
  go_wp2_with fail
  refine CV.out.mono ?_
  rintro e w1 ⟨rfl, hb1⟩
  have HB1 := Lib.hid hb1
  clear hb1
  go_wp2
  go_loopg [4, 6, 7, 8] (rs.length + 1) (fun gk v4 v6 v7 v8 wr => ∃ (done rest : List Nat) (zs : List Int), Hid (rs = done ++ rest) ∧ Hid (wr.heap[w1.heap.size]? = some (.stringIter (txt (enc rs)) (enc done).length)) ∧ rest.length < gk ∧ Hid (F = finS zs rest) ∧ zs.length ≤ done.length ∧ Hid (wr.ownsRow (w1.heap.size + 1) 21 1 v4 zs.length (icells zs)) ∧ Hid (Below w1.heap.size w1 wr))
  case atStart => exact ⟨[], rs, [], rfl, World.iter_heap _ _ _, by omega, HF.out, Nat.le_refl _, World.ownsRow_nil _ _ _ _, (Below.refl _ _).alloc (Nat.le_refl _) _⟩
  case round =>
    obtain ⟨done, rest, zs, HR, HI, hg, HN, hzl, HO, HBw⟩ := hrel
    have hbs := HBw.out.size
    have HBf := Lib.hid (HB1.out.trans (HBw.out.mono HB1.out.size))
    have hlt : w1.heap.size < wr.heap.size := (Array.getElem?_eq_some_iff.1 HI.out).1
    have hdl : done.length + rest.length = rs.length := by have := congrArg List.length HR.out; rw [List.length_append] at this; omega
    obtain ⟨ao, cap, hv4⟩ := owns_slice HO.out
    subst hv4
    cases rest with
    | nil =>
      have hp : ¬ (enc done).length < (txt (enc rs)).size := by rw [HR.out, List.append_nil, txt_size]; omega
      have hny := fun ty => @run_next_end_at Tryd.prog wr w1.heap.size _ _ ty HI.out hp
      have hcv := fun (h : True) => run_own_ints zs HO.out
      have hcv2 := run_own_ints zs HO.out
      have HF2 : Hid (F = (zs.flatMap encodeRune, 1)) := HN.out
      clear hp HN hcv
      have hcv3 : ∀ q : World, q = q := fun _ => rfl
      clear hcv3
      have hcvd : (convert 47 9 (.slice ao zs.length cap)).run Tryd.prog wr = .ok (.string (txt (zs.flatMap encodeRune))) wr := hcv2
      clear hcv2
      go_wp2
      go_ret2
      exact ⟨by rw [HF2.out]; rfl, HBf.out⟩
    | cons r rest =>
      have hr : Sc r := HS.out r (by rw [HR.out]; simp)
      have HRI := Lib.hid (show I32 (r : Int) from hr.i32)
      rw [List.length_cons] at hg hdl
      obtain ⟨gk, rfl⟩ : ∃ m, gk = m + 1 := ⟨gk - 1, by omega⟩
      have hny : ∀ ty, (Instr.next (.pointer (some ⟨w1.heap.size, 0, none⟩)) true ty).run Tryd.prog wr = .ok (.tuple #[.bool true, .int .i64 (enc done).length, .int .i32 r]) (wr.iterAt w1.heap.size (txt (enc rs)) (enc (done ++ [r])).length) := fun ty => by
        have := next_enc wr w1.heap.size done rest r (by rw [← HR.out]; exact HI.out) hr ty
        rw [← HR.out] at this
        exact this
      have HI2 := Lib.hid (iterAt_heap wr w1.heap.size (txt (enc rs)) _ (enc (done ++ [r])).length HI.out)
      have HB2 := Lib.hid (below_iterAt HBw.out (Nat.le_refl _) (txt (enc rs)) (enc (done ++ [r])).length)
      have HO2 := Lib.hid (ownsRow_iterAt HO.out (k := w1.heap.size) (by omega) (txt (enc rs)) (enc (done ++ [r])).length)
      have HR2 : Hid (rs = (done ++ [r]) ++ rest) := by show _ = _; rw [HR.out]; simp
      have hsz2 : w1.heap.size < (wr.iterAt w1.heap.size (txt (enc rs)) (enc (done ++ [r])).length).heap.size := by rw [iterAt_size]; exact hlt
      generalize wr.iterAt w1.heap.size (txt (enc rs)) (enc (done ++ [r])).length = wi at *
      have HBf2 := Lib.hid (HB1.out.trans (HB2.out.mono HB1.out.size))
      have CC := Lib.hid (cased_any (r : Int) true true wi HRI.out (HT.out.below HBf2.out))
      clear hr
      cases hc : cs true true (r : Int) with
      | none =>
        have HF2 : Hid (F = ([], 2)) := by show _ = _; rw [HN.out, finS, hc]
        have h1 : csR true true (r : Int) = (0, 2) := by unfold csR; rw [hc]
        rw [h1] at CC
        clear hc h1 HN
        go_wp2_with fail
        refine CC.out.mono ?_
        rintro e w3 ⟨rfl, hb3⟩
        have HB3 := Lib.hid (HBf2.out.trans (hb3.mono HBf2.out.size))
        clear hb3
        go_wp2
        go_ret2
        exact ⟨by rw [HF2.out]; rfl, HB3.out⟩
      | some z =>
        have HF2 : Hid (F = finS (zs ++ [z]) rest) := by show _ = _; rw [HN.out, finS, hc]
        have h1 : csR true true (r : Int) = (z, 1) := by unfold csR; rw [hc]
        rw [h1] at CC
        clear hc h1 HN
        go_wp2_with fail
        refine CC.out.mono ?_
        rintro e w3 ⟨rfl, hb3⟩
        have HB3 := Lib.hid (HB2.out.trans (hb3.mono HB2.out.size))
        have HO3 := Lib.hid (owns_below HO2.out hb3)
        have HI3 : Hid (w3.heap[w1.heap.size]? = some (.stringIter (txt (enc rs)) (enc (done ++ [r])).length)) := (hb3.block _ hsz2).trans HI2.out
        have hs3 : w1.heap.size + 1 ≤ w3.heap.size := by have := hb3.size; omega
        clear hb3
        go_wp2_with (at_builtin; refine wpList_app1 rfl _ _ 47 21 rfl i0 (.int .i32 0) 4 Tryd.underlying47 hi hz0 hz1 hz2 rfl (w1.heap.size + 1) _ zs.length _ rfl HO3.out (.int .i32 z) rfl rfl (by omega) (by omega) hs3 ?_)
        intro ao2 cap2 w4 hown4 hb4 hkeep
        have HO4 : Hid (w4.ownsRow (w1.heap.size + 1) 21 1 (.slice ao2 (zs.length + 1) cap2) (zs ++ [z]).length (icells (zs ++ [z]))) := by
          show World.ownsRow _ _ _ _ _ _ _
          rw [List.length_append, icells_snoc]
          exact hown4
        have HB4 := Lib.hid (HB3.out.trans (hb4.mono (by omega)))
        have HI4 : Hid (w4.heap[w1.heap.size]? = some (.stringIter (txt (enc rs)) (enc (done ++ [r])).length)) := by
          show _ = _
          rw [hkeep w1.heap.size (by omega) (fun h => by have := (World.ownsRow.lt HO3.out _ h).1; omega)]
          exact HI3.out
        clear hown4 hb4 hkeep
        go_wp2
        go_roundg gk
        case rel => exact ⟨done ++ [r], rest, zs ++ [z], HR2.out, HI4.out, by omega, HF2.out, by rw [List.length_append, List.length_append]; simp; omega, HO4.out, HB4.out⟩
        case measure => omega

end Go.Proofs.YthanbbflemkomaaDoor
