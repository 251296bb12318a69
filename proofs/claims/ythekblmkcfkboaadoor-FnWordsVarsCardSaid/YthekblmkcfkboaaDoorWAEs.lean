/- Parse, one round: a rune behind a backslash. -/
import Derived.Test.YthekblmkcfkboaaDoorWFrame
namespace Go.Proofs.YthekblmkcfkboaaDoor
open Go.RowKit U8
open Go.Lib hiding intOf

set_option maxHeartbeats 12800000 in
set_option maxRecDepth 100000 in
theorem arm_esc {c : Code} (hc : Tryd.f26.body.bind loopOf = some c) {w : World} {l : List UInt8} {pp A0 B0 G0 T0 S0 I0 : Nat} {cmt : Bool} {ex : List Nat} {R : Option (List (List UInt8) × Int)} {ev : Value} (X : Cs w l pp A0 B0 G0 T0 S0 cmt ex ev)
  {us : List Value} {args : List (List UInt8)} {buf : List UInt8} {got : Nat} {tq dq sq ad : Bool} {i : Int} {p a rest bt : List UInt8} {r : Nat} {vb vk : Value} {wr : World}
  (H : Rd w l pp A0 B0 G0 T0 S0 I0 cmt ex R us ⟨args, buf, got, tq, true, dq, sq, false, false, false, ad, i⟩ p (a ++ rest) bt vb vk wr) (ha : a ≠ []) (hd : decodeL (a ++ rest) = (r, a.length)) (hsc : Sc r)
  {gk0 : Nat} (hg : (a ++ rest).length < gk0) {K : Act → World → Prop} {Q : Exit → Act → World → Prop}
  (hK : ∀ a' w', Handed (RInv w l pp A0 B0 G0 T0 S0 I0 cmt ex R) gk0 a' w' → K a' w') :
  c.wp Tryd.prog (Exit.then K Q) ⟨us.toArray, []⟩ wr := by
  have hcc : Tryd.f26.body.bind loopOf = some _ := rfl
  rw [hc] at hcc
  cases hcc
  obtain ⟨i1, hj, hy0, hy1, hy2⟩ := info_parts Tryd.infoByte
  obtain ⟨hl, hxl, hpp, hc0, hc1, hE0, hev, k⟩ := X
  have HK := Lib.hid k
  obtain ⟨fr, he, hgot, hargs, hbuf, hbt, hi0, hi1, hr, hp⟩ := H
  dsimp only at hgot hargs hbuf hi0 hi1 hp
  obtain ⟨hn, s0, s1, s6, s7, s8, s9, s10, s11, s12, s13, s14, s15, s16, s17, s18, s19, s20, s22, s23, s50⟩ := fr
  dsimp only at s8 s9 s10 s11 s12 s13 s19 s23
  rw [lit_all us hn, s0, s1, s6, s7, s8, s9, s10, s11, s12, s13, s14, s15, s16, s17, s18, s19, s20, s22, s23, s50]
  clear hn s0 s1 s6 s7 s8 s9 s10 s11 s12 s13 s14 s15 s16 s17 s18 s19 s20 s22 s23 s50
  have hal : 0 < a.length := List.length_pos_iff.2 ha
  have hri := hsc.i32
  rw [List.length_append] at hg
  obtain ⟨gk, rfl⟩ : ∃ m, gk0 = m + 1 := ⟨gk0 - 1, by omega⟩
  have hpl : p.length + a.length + rest.length ≤ 100000 := by rw [he] at hl; simp only [List.length_append] at hl; omega
  clear hl
  have hit := hp.it
  have hnx : ∀ ty, (Instr.next (.pointer (some ⟨I0, 0, none⟩)) true ty).run Tryd.prog wr = .ok (.tuple #[.bool true, .int .i64 p.length, .int .i32 r]) (wr.iterAt I0 (txt l) (p ++ a).length) := fun ty => by
    have h := next_part wr I0 p a rest r (by rw [← he]; exact hit) ha hd ty
    rw [← he] at h
    exact h
  have hP2 := hp.next (p ++ a).length
  have HP2 := Lib.hid hP2
  have HL2 : Hid (l = (p ++ a) ++ rest) := by show _ = _; rw [he, List.append_assoc]
  have HRS : Hid (R = match stepS cmt ex ⟨args, buf, got, tq, true, dq, sq, false, false, false, ad, i⟩ r with | .err => none | .stop s' => finS s' s'.i | .go s' => runS cmt ex s' (rns rest)) := by
    have h := hr
    rw [rns_cons a rest r ha hd] at h
    exact h
  generalize wr.iterAt I0 (txt l) (p ++ a).length = wi at *
  clear hr hp hit hP2 he
  have hbw := HP2.out.bw
  have hbk := hbw.block pp hpp
  have k0 : wi.cell? ⟨pp, 0, none⟩ = some (.bool false) := (World.cell?_of_block hbk).trans hc0
  have k1 : wi.cell? ⟨pp, 1, none⟩ = some (.bool cmt) := (World.cell?_of_block hbk).trans hc1
  have HE2 : Hid (Ex pp ex wi) := hE0.below hbw
  have HB2 := Lib.hid hbw
  have HEV := Lib.hid hev
  clear hbw hbk hE0 hc0 hc1 hc hev
  have cg : wi.cell? ⟨G0, 0, none⟩ = some (.int .i64 got) := by simp [World.cell?, HP2.out.g]
  have fg : wi.frozen? ⟨G0, 0, none⟩ = false := by simp [World.frozen?, HP2.out.g]
  have lg : G0 < wi.heap.size := (Array.getElem?_eq_some_iff.1 HP2.out.g).1
  have ct : wi.cell? ⟨T0, 0, none⟩ = some (.bool tq) := by simp [World.cell?, HP2.out.t]
  have ft : wi.frozen? ⟨T0, 0, none⟩ = false := by simp [World.frozen?, HP2.out.t]
  have lt : T0 < wi.heap.size := (Array.getElem?_eq_some_iff.1 HP2.out.t).1
  have cs : wi.cell? ⟨S0, 0, none⟩ = some (.bool false) := by simp [World.cell?, HP2.out.z]
  have fs : wi.frozen? ⟨S0, 0, none⟩ = false := by simp [World.frozen?, HP2.out.z]
  have ls : S0 < wi.heap.size := (Array.getElem?_eq_some_iff.1 HP2.out.z).1
  have cb : wi.cell? ⟨B0, 0, none⟩ = some (vb) := by simp [World.cell?, HP2.out.b]
  have fb : wi.frozen? ⟨B0, 0, none⟩ = false := by simp [World.frozen?, HP2.out.b]
  have lb : B0 < wi.heap.size := (Array.getElem?_eq_some_iff.1 HP2.out.b).1
  have HPA := Lib.hid (@List.length_append _ p a)
  have hE4 := enc1_le r
  have HSC := Lib.hid hsc
  clear hsc hd ha
  obtain ⟨r2, hr2⟩ : ∃ r2, (if r = 116 then 9 else if r = 110 then 10 else r) = r2 := ⟨_, rfl⟩
  have HN : Hid (R = runS cmt ex ⟨args, buf ++ enc1 r2, 1, true, false, dq, sq, false, false, false, false, i + 1⟩ (rns rest)) := by show _ = _; rw [HRS.out, ← hr2]; simp [stepS]
  have HSC2 : Hid (Sc r2) := by show Sc _; have := HSC.out; unfold Sc at this ⊢; rw [← hr2]; split; omega; split; omega; exact this
  have hE5 := enc1_le r2
  have HR2 := Lib.hid hr2
  clear hr2
  go_upto_region 28 with fail
  have HT := Lib.hid (HP2.out.setT HK.out true)
  clear cg fg lg ct ft lt cs fs ls cb fb lb
  generalize wi.setCell ⟨T0, 0, none⟩ (.bool true) = wt at *
  have cg : wt.cell? ⟨G0, 0, none⟩ = some (.int .i64 got) := by simp [World.cell?, HT.out.g]
  have fg : wt.frozen? ⟨G0, 0, none⟩ = false := by simp [World.frozen?, HT.out.g]
  have lg : G0 < wt.heap.size := (Array.getElem?_eq_some_iff.1 HT.out.g).1
  have ct : wt.cell? ⟨T0, 0, none⟩ = some (.bool true) := by simp [World.cell?, HT.out.t]
  have ft : wt.frozen? ⟨T0, 0, none⟩ = false := by simp [World.frozen?, HT.out.t]
  have lt : T0 < wt.heap.size := (Array.getElem?_eq_some_iff.1 HT.out.t).1
  have cs : wt.cell? ⟨S0, 0, none⟩ = some (.bool false) := by simp [World.cell?, HT.out.z]
  have fs : wt.frozen? ⟨S0, 0, none⟩ = false := by simp [World.frozen?, HT.out.z]
  have ls : S0 < wt.heap.size := (Array.getElem?_eq_some_iff.1 HT.out.z).1
  have cb : wt.cell? ⟨B0, 0, none⟩ = some (vb) := by simp [World.cell?, HT.out.b]
  have fb : wt.frozen? ⟨B0, 0, none⟩ = false := by simp [World.frozen?, HT.out.b]
  have lb : B0 < wt.heap.size := (Array.getElem?_eq_some_iff.1 HT.out.b).1
  rcases (show (r = 116 ∧ r2 = 9) ∨ (r ≠ 116 ∧ r = 110 ∧ r2 = 10) ∨ (r ≠ 116 ∧ r ≠ 110 ∧ r2 = r) by have := HR2.out; by_cases q : r = 116; (left; simp [q] at this; omega); right; by_cases q2 : r = 110; (left; simp [q2] at this; omega); right; simp [q, q2] at this; omega) with ⟨rfl, rfl⟩ | ⟨q1, rfl, rfl⟩ | ⟨q1, q2, rfl⟩
  case inl =>
    clear HR2
    go_upto_region 38 with fail
    go_wp2_with (at_builtin; refine wpList_append_str_mv rfl _ _ 23 9 rfl w.heap.size 5 i1 Tryd.underlying23 Tryd.underlying9 hj hy0 hy1 hy2 vb buf.length (byteCells buf) rfl HT.out.br (txt (enc1 9)) (congrArg Value.string enc_nine) (by unfold maxLen; rw [txt_size]; skip; omega) (by rw [txt_size]; skip; omega) HT.out.bw.size ?_)
    intro vN2 wN2 hoN hgN hmN
    obtain ⟨aN2, mN2, cN2, rfl⟩ := owns_form hoN
    obtain ⟨e0, e1, e2, hPN⟩ := PW.addBuf HK.out HT.out hgN hoN hmN
    have HB := Lib.hid hPN
    clear hPN hoN hgN hmN
    clear cg fg lg ct ft lt cs fs ls cb fb lb
    go_upto_region 39 with fail
    generalize wN2.setCell ⟨B0, 0, none⟩ (Value.slice aN2 mN2 cN2) = wb at *
    clear e0 e1 e2
    generalize Value.slice aN2 mN2 cN2 = vN2 at *
    have cg : wb.cell? ⟨G0, 0, none⟩ = some (.int .i64 got) := by simp [World.cell?, HB.out.g]
    have fg : wb.frozen? ⟨G0, 0, none⟩ = false := by simp [World.frozen?, HB.out.g]
    have lg : G0 < wb.heap.size := (Array.getElem?_eq_some_iff.1 HB.out.g).1
    have ct : wb.cell? ⟨T0, 0, none⟩ = some (.bool true) := by simp [World.cell?, HB.out.t]
    have ft : wb.frozen? ⟨T0, 0, none⟩ = false := by simp [World.frozen?, HB.out.t]
    have lt : T0 < wb.heap.size := (Array.getElem?_eq_some_iff.1 HB.out.t).1
    have cs : wb.cell? ⟨S0, 0, none⟩ = some (.bool false) := by simp [World.cell?, HB.out.z]
    have fs : wb.frozen? ⟨S0, 0, none⟩ = false := by simp [World.frozen?, HB.out.z]
    have ls : S0 < wb.heap.size := (Array.getElem?_eq_some_iff.1 HB.out.z).1
    have cb : wb.cell? ⟨B0, 0, none⟩ = some (vN2) := by simp [World.cell?, HB.out.b]
    have fb : wb.frozen? ⟨B0, 0, none⟩ = false := by simp [World.frozen?, HB.out.b]
    have lb : B0 < wb.heap.size := (Array.getElem?_eq_some_iff.1 HB.out.b).1
    have HF := Lib.hid (HB.out.setG HK.out 1)
    go_wp2
    (try refine hK _ _ ?_)
    refine Handed.intro gk (by omega) ?_
    exact ⟨_, ⟨args, buf ++ enc1 9, 1, true, false, dq, sq, false, false, false, false, i + 1⟩, p ++ a, rest, bt, vN2, _, rfl, ⟨⟨rfl, rfl, rfl, rfl, rfl, rfl, rfl, rfl, rfl, rfl, rfl, rfl, rfl, rfl, rfl, rfl, rfl, rfl, rfl, (by show Value.int _ _ = Value.int _ _; first | rfl | go_num), rfl⟩, HL2.out, by (have := HPA.out; first | omega | (simp <;> omega)), by (have := HPA.out; first | omega | (simp <;> omega)), by (have := HPA.out; first | omega | (simp <;> omega)), by (have := HPA.out; first | omega | (simp <;> omega)), by (have := HPA.out; first | omega | (simp <;> omega)), by (have := HPA.out; first | omega | (simp <;> omega)), HN.out, HF.out⟩, by omega⟩
  case inr.inl =>
    clear HR2
    go_upto_region 38 with fail
    go_wp2_with (at_builtin; refine wpList_append_str_mv rfl _ _ 23 9 rfl w.heap.size 5 i1 Tryd.underlying23 Tryd.underlying9 hj hy0 hy1 hy2 vb buf.length (byteCells buf) rfl HT.out.br (txt (enc1 10)) (congrArg Value.string enc_ten) (by unfold maxLen; rw [txt_size]; skip; omega) (by rw [txt_size]; skip; omega) HT.out.bw.size ?_)
    intro vN2 wN2 hoN hgN hmN
    obtain ⟨aN2, mN2, cN2, rfl⟩ := owns_form hoN
    obtain ⟨e0, e1, e2, hPN⟩ := PW.addBuf HK.out HT.out hgN hoN hmN
    have HB := Lib.hid hPN
    clear hPN hoN hgN hmN
    clear cg fg lg ct ft lt cs fs ls cb fb lb
    go_upto_region 39 with fail
    generalize wN2.setCell ⟨B0, 0, none⟩ (Value.slice aN2 mN2 cN2) = wb at *
    clear e0 e1 e2
    generalize Value.slice aN2 mN2 cN2 = vN2 at *
    have cg : wb.cell? ⟨G0, 0, none⟩ = some (.int .i64 got) := by simp [World.cell?, HB.out.g]
    have fg : wb.frozen? ⟨G0, 0, none⟩ = false := by simp [World.frozen?, HB.out.g]
    have lg : G0 < wb.heap.size := (Array.getElem?_eq_some_iff.1 HB.out.g).1
    have ct : wb.cell? ⟨T0, 0, none⟩ = some (.bool true) := by simp [World.cell?, HB.out.t]
    have ft : wb.frozen? ⟨T0, 0, none⟩ = false := by simp [World.frozen?, HB.out.t]
    have lt : T0 < wb.heap.size := (Array.getElem?_eq_some_iff.1 HB.out.t).1
    have cs : wb.cell? ⟨S0, 0, none⟩ = some (.bool false) := by simp [World.cell?, HB.out.z]
    have fs : wb.frozen? ⟨S0, 0, none⟩ = false := by simp [World.frozen?, HB.out.z]
    have ls : S0 < wb.heap.size := (Array.getElem?_eq_some_iff.1 HB.out.z).1
    have cb : wb.cell? ⟨B0, 0, none⟩ = some (vN2) := by simp [World.cell?, HB.out.b]
    have fb : wb.frozen? ⟨B0, 0, none⟩ = false := by simp [World.frozen?, HB.out.b]
    have lb : B0 < wb.heap.size := (Array.getElem?_eq_some_iff.1 HB.out.b).1
    have HF := Lib.hid (HB.out.setG HK.out 1)
    go_wp2
    (try refine hK _ _ ?_)
    refine Handed.intro gk (by omega) ?_
    exact ⟨_, ⟨args, buf ++ enc1 10, 1, true, false, dq, sq, false, false, false, false, i + 1⟩, p ++ a, rest, bt, vN2, _, rfl, ⟨⟨rfl, rfl, rfl, rfl, rfl, rfl, rfl, rfl, rfl, rfl, rfl, rfl, rfl, rfl, rfl, rfl, rfl, rfl, rfl, (by show Value.int _ _ = Value.int _ _; first | rfl | go_num), rfl⟩, HL2.out, by (have := HPA.out; first | omega | (simp <;> omega)), by (have := HPA.out; first | omega | (simp <;> omega)), by (have := HPA.out; first | omega | (simp <;> omega)), by (have := HPA.out; first | omega | (simp <;> omega)), by (have := HPA.out; first | omega | (simp <;> omega)), by (have := HPA.out; first | omega | (simp <;> omega)), HN.out, HF.out⟩, by omega⟩
  case inr.inr =>
    have e116 : ((r2 : Int) == 116) = false := by simp; omega
    have e110 : ((r2 : Int) == 110) = false := by simp; omega
    clear q1 q2
    clear HR2
    go_upto_region 38 with fail
    go_wp2_with (at_builtin; refine wpList_append_str_mv rfl _ _ 23 9 rfl w.heap.size 5 i1 Tryd.underlying23 Tryd.underlying9 hj hy0 hy1 hy2 vb buf.length (byteCells buf) rfl HT.out.br (txt (enc1 r2)) (congrArg Value.string (encode_enc1 r2 HSC2.out)) (by unfold maxLen; rw [txt_size]; skip; omega) (by rw [txt_size]; skip; omega) HT.out.bw.size ?_)
    intro vN2 wN2 hoN hgN hmN
    obtain ⟨aN2, mN2, cN2, rfl⟩ := owns_form hoN
    obtain ⟨e0, e1, e2, hPN⟩ := PW.addBuf HK.out HT.out hgN hoN hmN
    have HB := Lib.hid hPN
    clear hPN hoN hgN hmN
    clear cg fg lg ct ft lt cs fs ls cb fb lb
    go_upto_region 39 with fail
    generalize wN2.setCell ⟨B0, 0, none⟩ (Value.slice aN2 mN2 cN2) = wb at *
    clear e0 e1 e2
    generalize Value.slice aN2 mN2 cN2 = vN2 at *
    have cg : wb.cell? ⟨G0, 0, none⟩ = some (.int .i64 got) := by simp [World.cell?, HB.out.g]
    have fg : wb.frozen? ⟨G0, 0, none⟩ = false := by simp [World.frozen?, HB.out.g]
    have lg : G0 < wb.heap.size := (Array.getElem?_eq_some_iff.1 HB.out.g).1
    have ct : wb.cell? ⟨T0, 0, none⟩ = some (.bool true) := by simp [World.cell?, HB.out.t]
    have ft : wb.frozen? ⟨T0, 0, none⟩ = false := by simp [World.frozen?, HB.out.t]
    have lt : T0 < wb.heap.size := (Array.getElem?_eq_some_iff.1 HB.out.t).1
    have cs : wb.cell? ⟨S0, 0, none⟩ = some (.bool false) := by simp [World.cell?, HB.out.z]
    have fs : wb.frozen? ⟨S0, 0, none⟩ = false := by simp [World.frozen?, HB.out.z]
    have ls : S0 < wb.heap.size := (Array.getElem?_eq_some_iff.1 HB.out.z).1
    have cb : wb.cell? ⟨B0, 0, none⟩ = some (vN2) := by simp [World.cell?, HB.out.b]
    have fb : wb.frozen? ⟨B0, 0, none⟩ = false := by simp [World.frozen?, HB.out.b]
    have lb : B0 < wb.heap.size := (Array.getElem?_eq_some_iff.1 HB.out.b).1
    have HF := Lib.hid (HB.out.setG HK.out 1)
    go_wp2
    (try refine hK _ _ ?_)
    refine Handed.intro gk (by omega) ?_
    exact ⟨_, ⟨args, buf ++ enc1 r2, 1, true, false, dq, sq, false, false, false, false, i + 1⟩, p ++ a, rest, bt, vN2, _, rfl, ⟨⟨rfl, rfl, rfl, rfl, rfl, rfl, rfl, rfl, rfl, rfl, rfl, rfl, rfl, rfl, rfl, rfl, rfl, rfl, rfl, (by show Value.int _ _ = Value.int _ _; first | rfl | go_num), rfl⟩, HL2.out, by (have := HPA.out; first | omega | (simp <;> omega)), by (have := HPA.out; first | omega | (simp <;> omega)), by (have := HPA.out; first | omega | (simp <;> omega)), by (have := HPA.out; first | omega | (simp <;> omega)), by (have := HPA.out; first | omega | (simp <;> omega)), by (have := HPA.out; first | omega | (simp <;> omega)), HN.out, HF.out⟩, by omega⟩

end Go.Proofs.YthekblmkcfkboaaDoor
