/- Parse, one round: the switch at a backtick and at round brackets. -/
import Derived.Test.YthekblmkcfkboaaDoorWSw
import Derived.Test.YthekblmkcfkboaaDoorPcs
namespace Go.Proofs.YthekblmkcfkboaaDoor
open Go.RowKit U8
open Go.Lib hiding intOf

set_option maxHeartbeats 12800000 in
set_option maxRecDepth 100000 in
theorem sw_96 {c : Code} (hc : Tryd.f26.body.bind (blkOf 2) = some c) {w : World} {l : List UInt8} {pp A0 B0 G0 T0 S0 I0 : Nat} {cmt : Bool} {ex : List Nat} {R : Option (List (List UInt8) × Int)} {ev : Value} (X : Cs w l pp A0 B0 G0 T0 S0 cmt ex ev)
  {us : List Value} {args : List (List UInt8)} {buf : List UInt8} {got : Nat} {tq dq sq bq dl ad : Bool} {i : Int} {p a rest bt : List UInt8} {r : Nat} {vb vk : Value} {wi : World}
  (H : Sw w l pp A0 B0 G0 T0 S0 I0 cmt ex R us args buf got tq dq sq bq dl ad i p a rest bt r vb vk wi)
  (hr : r = 96) {gk0 : Nat} (hg : a.length + rest.length < gk0) {K : Act → World → Prop} {Q : Exit → Act → World → Prop}
  (hM : ∀ a' w', MInv w l pp A0 B0 G0 T0 S0 I0 cmt ex R args buf got tq dq sq dl i p a rest bt r vb a' w' → K a' w')
  (_hK : ∀ a' w', Handed (RInv w l pp A0 B0 G0 T0 S0 I0 cmt ex R) gk0 a' w' → Q (.exit 1) a' w') (_hB : ∀ a' w', BInv w l pp A0 B0 G0 T0 S0 I0 R a' w' → Q (.exit 0) a' w') (_hE : ∀ a' w', EInv w ev R a' w' → Q .ret a' w') :
  c.wp Tryd.prog (Exit.then K Q) ⟨us.toArray, []⟩ wi := by
  have hcc : Tryd.f26.body.bind (blkOf 2) = some _ := rfl
  rw [hc] at hcc
  cases hcc
  obtain ⟨i1, hj, hy0, hy1, hy2⟩ := info_parts Tryd.infoByte
  obtain ⟨hl, hxl, hpp, hc0, hc1, hE0, hev, k⟩ := X
  have HK := Lib.hid k
  obtain ⟨fr, s25, s26, s140, he, hal, hgot, hargs, hbuf, hbt, hi0, hi1, hsc, hsw, hp⟩ := H
  obtain ⟨hn, s0, s1, s6, s7, s8, s9, s10, s11, s12, s13, s14, s15, s16, s17, s18, s19, s20, s22, s23, s50⟩ := fr
  dsimp only at s8 s9 s10 s11 s12 s13 s19 s23
  rw [lit_all us hn, s25, s26, s140, s0, s1, s6, s7, s8, s9, s10, s11, s12, s13, s14, s15, s16, s17, s18, s19, s20, s22, s23, s50]
  clear hn s25 s26 s140 s0 s1 s6 s7 s8 s9 s10 s11 s12 s13 s14 s15 s16 s17 s18 s19 s20 s22 s23 s50
  have hri := hsc.i32
  obtain ⟨gk, rfl⟩ : ∃ m, gk0 = m + 1 := ⟨gk0 - 1, by omega⟩
  have hpl : p.length + a.length + rest.length ≤ 100000 := by rw [he] at hl; simp only [List.length_append] at hl; omega
  have hpl2 : p.length + a.length ≤ l.length := by rw [he]; simp only [List.length_append]; omega
  clear hl
  have HP2 := Lib.hid hp
  have HL2 : Hid (l = (p ++ a) ++ rest) := he
  have HSW := Lib.hid hsw
  clear hp he hsw
  have hbw := HP2.out.bw
  have hbk := hbw.block pp hpp
  have k0 : wi.cell? ⟨pp, 0, none⟩ = some (.bool false) := (World.cell?_of_block hbk).trans hc0
  have k1 : wi.cell? ⟨pp, 1, none⟩ = some (.bool cmt) := (World.cell?_of_block hbk).trans hc1
  have HB2 := Lib.hid hbw
  have HEV := Lib.hid hev
  clear hbw hbk hE0 hc0 hc1 hc hev
  have cg : wi.cell? ⟨G0, 0, none⟩ = some (.int .i64 got) := by simp [World.cell?, HP2.out.g]
  have fg : wi.frozen? ⟨G0, 0, none⟩ = false := by simp [World.frozen?, HP2.out.g]
  have lg : G0 < wi.heap.size := (Array.getElem?_eq_some_iff.1 HP2.out.g).1
  have ct : wi.cell? ⟨T0, 0, none⟩ = some (.bool tq) := by simp [World.cell?, HP2.out.t]
  have ft : wi.frozen? ⟨T0, 0, none⟩ = false := by simp [World.frozen?, HP2.out.t]
  have lt : T0 < wi.heap.size := (Array.getElem?_eq_some_iff.1 HP2.out.t).1
  have cs : wi.cell? ⟨S0, 0, none⟩ = some (.bool false) := by simp [World.cell?, HP2.out.z]
  have fs : wi.frozen? ⟨S0, 0, none⟩ = false := by simp [World.frozen?, HP2.out.z]
  have ls : S0 < wi.heap.size := (Array.getElem?_eq_some_iff.1 HP2.out.z).1
  have cb : wi.cell? ⟨B0, 0, none⟩ = some (vb) := by simp [World.cell?, HP2.out.b]
  have fb : wi.frozen? ⟨B0, 0, none⟩ = false := by simp [World.frozen?, HP2.out.b]
  have lb : B0 < wi.heap.size := (Array.getElem?_eq_some_iff.1 HP2.out.b).1
  have HPA := Lib.hid (@List.length_append _ p a)
  have hE4 := enc1_le r
  have HSC := Lib.hid hsc
  clear hsc
  subst hr
  rcases (show sq = true ∨ (sq = false ∧ (dq = true ∨ (dq = false ∧ (dl = true ∨ dl = false)))) by cases sq <;> cases dq <;> cases dl <;> simp) with rfl | ⟨rfl, rfl | ⟨rfl, rfl | rfl⟩⟩
  case inl =>
    have HN : Hid (R = runS cmt ex (Sx.put ⟨args, buf, got, tq, false, dq, true, bq, dl, false, false, i + 1⟩ 96) (rns rest)) := by show _ = _; rw [HSW.out]; simp [switchS]
    go_wp2
    (try refine hM _ _ ?_)
    exact ⟨_, _, _, _, rfl, ⟨rfl, rfl, rfl, rfl, rfl, rfl, rfl, rfl, rfl, rfl, rfl, rfl, rfl, rfl, rfl, rfl, rfl, rfl, rfl, (by show Value.int _ _ = Value.int _ _; first | rfl | go_num), rfl⟩, rfl, by first | omega | simp, HN.out, HP2.out⟩
  case inr.inl =>
    have HN : Hid (R = runS cmt ex (Sx.put ⟨args, buf, got, tq, false, true, false, bq, dl, false, false, i + 1⟩ 96) (rns rest)) := by show _ = _; rw [HSW.out]; simp [switchS]
    go_wp2
    (try refine hM _ _ ?_)
    exact ⟨_, _, _, _, rfl, ⟨rfl, rfl, rfl, rfl, rfl, rfl, rfl, rfl, rfl, rfl, rfl, rfl, rfl, rfl, rfl, rfl, rfl, rfl, rfl, (by show Value.int _ _ = Value.int _ _; first | rfl | go_num), rfl⟩, rfl, by first | omega | simp, HN.out, HP2.out⟩
  case inr.inr.inl =>
    have HN : Hid (R = runS cmt ex (Sx.put ⟨args, buf, got, tq, false, false, false, bq, true, false, false, i + 1⟩ 96) (rns rest)) := by show _ = _; rw [HSW.out]; simp [switchS]
    go_wp2
    (try refine hM _ _ ?_)
    exact ⟨_, _, _, _, rfl, ⟨rfl, rfl, rfl, rfl, rfl, rfl, rfl, rfl, rfl, rfl, rfl, rfl, rfl, rfl, rfl, rfl, rfl, rfl, rfl, (by show Value.int _ _ = Value.int _ _; first | rfl | go_num), rfl⟩, rfl, by first | omega | simp, HN.out, HP2.out⟩
  rcases HP2.out.bkForm with ⟨rfl, hb0⟩ | ⟨gk0, ck0, rfl, hck0⟩
  · have HB := Lib.hid (HP2.out.bkCut (hb0.symm))
    clear hb0
    have HN : Hid (R = runS cmt ex (Sx.put ⟨args, buf, got, tq, false, false, false, (!bq), false, false, false, i + 1⟩ 96) (rns rest)) := by show _ = _; rw [HSW.out]; simp [switchS]
    go_wp2
    (try refine hM _ _ ?_)
    exact ⟨_, _, _, _, rfl, ⟨rfl, rfl, rfl, rfl, rfl, rfl, rfl, rfl, rfl, rfl, rfl, rfl, rfl, rfl, rfl, rfl, rfl, rfl, rfl, (by show Value.int _ _ = Value.int _ _; first | rfl | go_num), rfl⟩, rfl, by first | omega | simp, HN.out, HB.out⟩
  · have HB := Lib.hid (HP2.out.bkCut (rfl))
    have HN : Hid (R = runS cmt ex (Sx.put ⟨args, buf, got, tq, false, false, false, (!bq), false, false, false, i + 1⟩ 96) (rns rest)) := by show _ = _; rw [HSW.out]; simp [switchS]
    go_wp2
    (try refine hM _ _ ?_)
    exact ⟨_, _, _, _, rfl, ⟨rfl, rfl, rfl, rfl, rfl, rfl, rfl, rfl, rfl, rfl, rfl, rfl, rfl, rfl, rfl, rfl, rfl, rfl, rfl, (by show Value.int _ _ = Value.int _ _; first | rfl | go_num), rfl⟩, rfl, by first | omega | simp, HN.out, HB.out⟩


set_option maxHeartbeats 12800000 in
set_option maxRecDepth 100000 in
theorem sw_41 {c : Code} (hc : Tryd.f26.body.bind (blkOf 2) = some c) {w : World} {l : List UInt8} {pp A0 B0 G0 T0 S0 I0 : Nat} {cmt : Bool} {ex : List Nat} {R : Option (List (List UInt8) × Int)} {ev : Value} (X : Cs w l pp A0 B0 G0 T0 S0 cmt ex ev)
  {us : List Value} {args : List (List UInt8)} {buf : List UInt8} {got : Nat} {tq dq sq bq dl ad : Bool} {i : Int} {p a rest bt : List UInt8} {r : Nat} {vb vk : Value} {wi : World}
  (H : Sw w l pp A0 B0 G0 T0 S0 I0 cmt ex R us args buf got tq dq sq bq dl ad i p a rest bt r vb vk wi)
  (hr : r = 41) {gk0 : Nat} (hg : a.length + rest.length < gk0) {K : Act → World → Prop} {Q : Exit → Act → World → Prop}
  (hM : ∀ a' w', MInv w l pp A0 B0 G0 T0 S0 I0 cmt ex R args buf got tq dq sq dl i p a rest bt r vb a' w' → K a' w')
  (hK : ∀ a' w', Handed (RInv w l pp A0 B0 G0 T0 S0 I0 cmt ex R) gk0 a' w' → Q (.exit 1) a' w') (_hB : ∀ a' w', BInv w l pp A0 B0 G0 T0 S0 I0 R a' w' → Q (.exit 0) a' w') (hE : ∀ a' w', EInv w ev R a' w' → Q .ret a' w') :
  c.wp Tryd.prog (Exit.then K Q) ⟨us.toArray, []⟩ wi := by
  have hcc : Tryd.f26.body.bind (blkOf 2) = some _ := rfl
  rw [hc] at hcc
  cases hcc
  obtain ⟨i1, hj, hy0, hy1, hy2⟩ := info_parts Tryd.infoByte
  obtain ⟨hl, hxl, hpp, hc0, hc1, hE0, hev, k⟩ := X
  have HK := Lib.hid k
  obtain ⟨fr, s25, s26, s140, he, hal, hgot, hargs, hbuf, hbt, hi0, hi1, hsc, hsw, hp⟩ := H
  obtain ⟨hn, s0, s1, s6, s7, s8, s9, s10, s11, s12, s13, s14, s15, s16, s17, s18, s19, s20, s22, s23, s50⟩ := fr
  dsimp only at s8 s9 s10 s11 s12 s13 s19 s23
  rw [lit_all us hn, s25, s26, s140, s0, s1, s6, s7, s8, s9, s10, s11, s12, s13, s14, s15, s16, s17, s18, s19, s20, s22, s23, s50]
  clear hn s25 s26 s140 s0 s1 s6 s7 s8 s9 s10 s11 s12 s13 s14 s15 s16 s17 s18 s19 s20 s22 s23 s50
  have hri := hsc.i32
  obtain ⟨gk, rfl⟩ : ∃ m, gk0 = m + 1 := ⟨gk0 - 1, by omega⟩
  have hpl : p.length + a.length + rest.length ≤ 100000 := by rw [he] at hl; simp only [List.length_append] at hl; omega
  have hpl2 : p.length + a.length ≤ l.length := by rw [he]; simp only [List.length_append]; omega
  clear hl
  have HP2 := Lib.hid hp
  have HL2 : Hid (l = (p ++ a) ++ rest) := he
  have HSW := Lib.hid hsw
  clear hp he hsw
  have hbw := HP2.out.bw
  have hbk := hbw.block pp hpp
  have k0 : wi.cell? ⟨pp, 0, none⟩ = some (.bool false) := (World.cell?_of_block hbk).trans hc0
  have k1 : wi.cell? ⟨pp, 1, none⟩ = some (.bool cmt) := (World.cell?_of_block hbk).trans hc1
  have HB2 := Lib.hid hbw
  have HEV := Lib.hid hev
  clear hbw hbk hE0 hc0 hc1 hc hev
  have cg : wi.cell? ⟨G0, 0, none⟩ = some (.int .i64 got) := by simp [World.cell?, HP2.out.g]
  have fg : wi.frozen? ⟨G0, 0, none⟩ = false := by simp [World.frozen?, HP2.out.g]
  have lg : G0 < wi.heap.size := (Array.getElem?_eq_some_iff.1 HP2.out.g).1
  have ct : wi.cell? ⟨T0, 0, none⟩ = some (.bool tq) := by simp [World.cell?, HP2.out.t]
  have ft : wi.frozen? ⟨T0, 0, none⟩ = false := by simp [World.frozen?, HP2.out.t]
  have lt : T0 < wi.heap.size := (Array.getElem?_eq_some_iff.1 HP2.out.t).1
  have cs : wi.cell? ⟨S0, 0, none⟩ = some (.bool false) := by simp [World.cell?, HP2.out.z]
  have fs : wi.frozen? ⟨S0, 0, none⟩ = false := by simp [World.frozen?, HP2.out.z]
  have ls : S0 < wi.heap.size := (Array.getElem?_eq_some_iff.1 HP2.out.z).1
  have cb : wi.cell? ⟨B0, 0, none⟩ = some (vb) := by simp [World.cell?, HP2.out.b]
  have fb : wi.frozen? ⟨B0, 0, none⟩ = false := by simp [World.frozen?, HP2.out.b]
  have lb : B0 < wi.heap.size := (Array.getElem?_eq_some_iff.1 HP2.out.b).1
  have HPA := Lib.hid (@List.length_append _ p a)
  have hE4 := enc1_le r
  have HSC := Lib.hid hsc
  clear hsc
  subst hr
  rcases (show sq = true ∨ (sq = false ∧ (dq = true ∨ (dq = false ∧ (bq = true ∨ bq = false)))) by cases sq <;> cases dq <;> cases bq <;> simp) with rfl | ⟨rfl, rfl | ⟨rfl, rfl | rfl⟩⟩
  case inl =>
    have HN : Hid (R = runS cmt ex (Sx.put ⟨args, buf, got, tq, false, dq, true, bq, dl, false, false, i + 1⟩ 41) (rns rest)) := by show _ = _; rw [HSW.out]; simp [switchS]
    go_wp2
    (try refine hM _ _ ?_)
    exact ⟨_, _, _, _, rfl, ⟨rfl, rfl, rfl, rfl, rfl, rfl, rfl, rfl, rfl, rfl, rfl, rfl, rfl, rfl, rfl, rfl, rfl, rfl, rfl, (by show Value.int _ _ = Value.int _ _; first | rfl | go_num), rfl⟩, rfl, by first | omega | simp, HN.out, HP2.out⟩
  case inr.inl =>
    have HN : Hid (R = runS cmt ex (Sx.put ⟨args, buf, got, tq, false, true, false, bq, dl, false, false, i + 1⟩ 41) (rns rest)) := by show _ = _; rw [HSW.out]; simp [switchS]
    go_wp2
    (try refine hM _ _ ?_)
    exact ⟨_, _, _, _, rfl, ⟨rfl, rfl, rfl, rfl, rfl, rfl, rfl, rfl, rfl, rfl, rfl, rfl, rfl, rfl, rfl, rfl, rfl, rfl, rfl, (by show Value.int _ _ = Value.int _ _; first | rfl | go_num), rfl⟩, rfl, by first | omega | simp, HN.out, HP2.out⟩
  case inr.inr.inl =>
    have HN : Hid (R = runS cmt ex (Sx.put ⟨args, buf, got, tq, false, false, false, true, dl, false, false, i + 1⟩ 41) (rns rest)) := by show _ = _; rw [HSW.out]; simp [switchS]
    go_wp2
    (try refine hM _ _ ?_)
    exact ⟨_, _, _, _, rfl, ⟨rfl, rfl, rfl, rfl, rfl, rfl, rfl, rfl, rfl, rfl, rfl, rfl, rfl, rfl, rfl, rfl, rfl, rfl, rfl, (by show Value.int _ _ = Value.int _ _; first | rfl | go_num), rfl⟩, rfl, by first | omega | simp, HN.out, HP2.out⟩
  cases dl with
  | false =>
    have HN : Hid (R = none) := by show _ = _; rw [HSW.out]; simp [switchS]
    have kev : wi.cell? ⟨0, 0, none⟩ = some ev := (HB2.out.cell (World.block_lt_of_cell? w _ HEV.out)).trans HEV.out
    go_wp2
    go_quiet (fail)
    go_wp2
    (try refine hE _ _ ?_)
    exact ⟨_, rfl, rfl, rfl, rfl, HN.out, ⟨HB2.out.os, HB2.out.tape, HB2.out.output, HB2.out.size, HB2.out.block⟩⟩
  | true =>
    have HN : Hid (R = runS cmt ex ⟨args, buf ++ [41], 1, tq, false, false, false, false, false, false, false, i + 1⟩ (rns rest)) := by show _ = _; rw [HSW.out]; simp [switchS]
    go_upto_region 64 with fail
    go_wp2_with (at_builtin; refine wpList_append_mv rfl _ _ 23 rfl w.heap.size 5 i1 (.int .u8 0) 1 Tryd.underlying23 hj hy0 hy1 hy2 rfl vb buf.length (byteCells buf) rfl (World.ownsRow.alloc HP2.out.br _) ⟨wi.heap.size, 0, none⟩ 1 1 [.int .u8 41] rfl rfl (one_u8 wi _) (by intro u hu; simp at hu; subst hu; rfl) (by unfold maxLen; skip; omega) (by skip; omega) (by have := HP2.out.bw.size; simp; omega) ?_)
    intro vN1 wN1 hoN hgN hmN
    obtain ⟨aN1, mN1, cN1, rfl⟩ := owns_form hoN
    obtain ⟨e0, e1, e2, hPN⟩ := PW.addBuf1 HK.out HP2.out 41 41 rfl hgN hoN hmN
    have HA := Lib.hid hPN
    clear hPN hoN hgN hmN
    clear cg fg lg ct ft lt cs fs ls cb fb lb
    go_upto_region 65 with fail
    generalize wN1.setCell ⟨B0, 0, none⟩ (Value.slice aN1 mN1 cN1) = wa at *
    clear e0 e1 e2
    generalize Value.slice aN1 mN1 cN1 = vN1 at *
    have cg : wa.cell? ⟨G0, 0, none⟩ = some (.int .i64 got) := by simp [World.cell?, HA.out.g]
    have fg : wa.frozen? ⟨G0, 0, none⟩ = false := by simp [World.frozen?, HA.out.g]
    have lg : G0 < wa.heap.size := (Array.getElem?_eq_some_iff.1 HA.out.g).1
    have ct : wa.cell? ⟨T0, 0, none⟩ = some (.bool tq) := by simp [World.cell?, HA.out.t]
    have ft : wa.frozen? ⟨T0, 0, none⟩ = false := by simp [World.frozen?, HA.out.t]
    have lt : T0 < wa.heap.size := (Array.getElem?_eq_some_iff.1 HA.out.t).1
    have cs : wa.cell? ⟨S0, 0, none⟩ = some (.bool false) := by simp [World.cell?, HA.out.z]
    have fs : wa.frozen? ⟨S0, 0, none⟩ = false := by simp [World.frozen?, HA.out.z]
    have ls : S0 < wa.heap.size := (Array.getElem?_eq_some_iff.1 HA.out.z).1
    have cb : wa.cell? ⟨B0, 0, none⟩ = some (vN1) := by simp [World.cell?, HA.out.b]
    have fb : wa.frozen? ⟨B0, 0, none⟩ = false := by simp [World.frozen?, HA.out.b]
    have lb : B0 < wa.heap.size := (Array.getElem?_eq_some_iff.1 HA.out.b).1
    have HG := Lib.hid (HA.out.setG HK.out 1)
    rcases HG.out.bkForm with ⟨rfl, hb0⟩ | ⟨gk0, ck0, rfl, hck0⟩
    · have HB := Lib.hid (HG.out.bkCut (hb0.symm))
      clear hb0
      go_wp2
      (try refine hK _ _ ?_)
      refine Handed.intro gk (by omega) ?_
      exact ⟨_, ⟨args, buf ++ [41], 1, tq, false, false, false, false, false, false, false, i + 1⟩, p ++ a, rest, [], vN1, _, rfl, ⟨⟨rfl, rfl, rfl, rfl, rfl, rfl, rfl, rfl, rfl, rfl, rfl, rfl, rfl, rfl, rfl, rfl, rfl, rfl, rfl, (by show Value.int _ _ = Value.int _ _; first | rfl | go_num), rfl⟩, HL2.out, by (have := HPA.out; first | omega | (simp <;> omega)), by (have := HPA.out; first | omega | (simp <;> omega)), by (have := HPA.out; first | omega | (simp <;> omega)), by (have := HPA.out; first | omega | (simp <;> omega)), by (have := HPA.out; first | omega | (simp <;> omega)), by (have := HPA.out; first | omega | (simp <;> omega)), HN.out, HB.out⟩, by omega⟩
    · have HB := Lib.hid (HG.out.bkCut (rfl))
      go_wp2
      (try refine hK _ _ ?_)
      refine Handed.intro gk (by omega) ?_
      exact ⟨_, ⟨args, buf ++ [41], 1, tq, false, false, false, false, false, false, false, i + 1⟩, p ++ a, rest, [], vN1, _, rfl, ⟨⟨rfl, rfl, rfl, rfl, rfl, rfl, rfl, rfl, rfl, rfl, rfl, rfl, rfl, rfl, rfl, rfl, rfl, rfl, rfl, (by show Value.int _ _ = Value.int _ _; first | rfl | go_num), rfl⟩, HL2.out, by (have := HPA.out; first | omega | (simp <;> omega)), by (have := HPA.out; first | omega | (simp <;> omega)), by (have := HPA.out; first | omega | (simp <;> omega)), by (have := HPA.out; first | omega | (simp <;> omega)), by (have := HPA.out; first | omega | (simp <;> omega)), by (have := HPA.out; first | omega | (simp <;> omega)), HN.out, HB.out⟩, by omega⟩


set_option maxHeartbeats 12800000 in
set_option maxRecDepth 100000 in
theorem sw_40 {c : Code} (hc : Tryd.f26.body.bind (blkOf 2) = some c) {w : World} {l : List UInt8} {pp A0 B0 G0 T0 S0 I0 : Nat} {cmt : Bool} {ex : List Nat} {R : Option (List (List UInt8) × Int)} {ev : Value} (X : Cs w l pp A0 B0 G0 T0 S0 cmt ex ev)
  {us : List Value} {args : List (List UInt8)} {buf : List UInt8} {got : Nat} {tq dq sq bq dl ad : Bool} {i : Int} {p a rest bt : List UInt8} {r : Nat} {vb vk : Value} {wi : World}
  (H : Sw w l pp A0 B0 G0 T0 S0 I0 cmt ex R us args buf got tq dq sq bq dl ad i p a rest bt r vb vk wi)
  (hr : r = 40) {gk0 : Nat} (hg : a.length + rest.length < gk0) {K : Act → World → Prop} {Q : Exit → Act → World → Prop}
  (hM : ∀ a' w', MInv w l pp A0 B0 G0 T0 S0 I0 cmt ex R args buf got tq dq sq dl i p a rest bt r vb a' w' → K a' w')
  (hK : ∀ a' w', Handed (RInv w l pp A0 B0 G0 T0 S0 I0 cmt ex R) gk0 a' w' → Q (.exit 1) a' w') (_hB : ∀ a' w', BInv w l pp A0 B0 G0 T0 S0 I0 R a' w' → Q (.exit 0) a' w') (hE : ∀ a' w', EInv w ev R a' w' → Q .ret a' w') :
  c.wp Tryd.prog (Exit.then K Q) ⟨us.toArray, []⟩ wi := by
  have hcc : Tryd.f26.body.bind (blkOf 2) = some _ := rfl
  rw [hc] at hcc
  cases hcc
  obtain ⟨i1, hj, hy0, hy1, hy2⟩ := info_parts Tryd.infoByte
  obtain ⟨hl, hxl, hpp, hc0, hc1, hE0, hev, k⟩ := X
  have HK := Lib.hid k
  obtain ⟨fr, s25, s26, s140, he, hal, hgot, hargs, hbuf, hbt, hi0, hi1, hsc, hsw, hp⟩ := H
  obtain ⟨hn, s0, s1, s6, s7, s8, s9, s10, s11, s12, s13, s14, s15, s16, s17, s18, s19, s20, s22, s23, s50⟩ := fr
  dsimp only at s8 s9 s10 s11 s12 s13 s19 s23
  rw [lit_all us hn, s25, s26, s140, s0, s1, s6, s7, s8, s9, s10, s11, s12, s13, s14, s15, s16, s17, s18, s19, s20, s22, s23, s50]
  clear hn s25 s26 s140 s0 s1 s6 s7 s8 s9 s10 s11 s12 s13 s14 s15 s16 s17 s18 s19 s20 s22 s23 s50
  have hri := hsc.i32
  obtain ⟨gk, rfl⟩ : ∃ m, gk0 = m + 1 := ⟨gk0 - 1, by omega⟩
  have hpl : p.length + a.length + rest.length ≤ 100000 := by rw [he] at hl; simp only [List.length_append] at hl; omega
  have hpl2 : p.length + a.length ≤ l.length := by rw [he]; simp only [List.length_append]; omega
  clear hl
  have HP2 := Lib.hid hp
  have HL2 : Hid (l = (p ++ a) ++ rest) := he
  have HSW := Lib.hid hsw
  clear hp he hsw
  have hbw := HP2.out.bw
  have hbk := hbw.block pp hpp
  have k0 : wi.cell? ⟨pp, 0, none⟩ = some (.bool false) := (World.cell?_of_block hbk).trans hc0
  have k1 : wi.cell? ⟨pp, 1, none⟩ = some (.bool cmt) := (World.cell?_of_block hbk).trans hc1
  have HB2 := Lib.hid hbw
  have HEV := Lib.hid hev
  clear hbw hbk hE0 hc0 hc1 hc hev
  have cg : wi.cell? ⟨G0, 0, none⟩ = some (.int .i64 got) := by simp [World.cell?, HP2.out.g]
  have fg : wi.frozen? ⟨G0, 0, none⟩ = false := by simp [World.frozen?, HP2.out.g]
  have lg : G0 < wi.heap.size := (Array.getElem?_eq_some_iff.1 HP2.out.g).1
  have ct : wi.cell? ⟨T0, 0, none⟩ = some (.bool tq) := by simp [World.cell?, HP2.out.t]
  have ft : wi.frozen? ⟨T0, 0, none⟩ = false := by simp [World.frozen?, HP2.out.t]
  have lt : T0 < wi.heap.size := (Array.getElem?_eq_some_iff.1 HP2.out.t).1
  have cs : wi.cell? ⟨S0, 0, none⟩ = some (.bool false) := by simp [World.cell?, HP2.out.z]
  have fs : wi.frozen? ⟨S0, 0, none⟩ = false := by simp [World.frozen?, HP2.out.z]
  have ls : S0 < wi.heap.size := (Array.getElem?_eq_some_iff.1 HP2.out.z).1
  have cb : wi.cell? ⟨B0, 0, none⟩ = some (vb) := by simp [World.cell?, HP2.out.b]
  have fb : wi.frozen? ⟨B0, 0, none⟩ = false := by simp [World.frozen?, HP2.out.b]
  have lb : B0 < wi.heap.size := (Array.getElem?_eq_some_iff.1 HP2.out.b).1
  have HPA := Lib.hid (@List.length_append _ p a)
  have hE4 := enc1_le r
  have HSC := Lib.hid hsc
  clear hsc
  subst hr
  rcases (show sq = true ∨ (sq = false ∧ (dq = true ∨ (dq = false ∧ (bq = true ∨ bq = false)))) by cases sq <;> cases dq <;> cases bq <;> simp) with rfl | ⟨rfl, rfl | ⟨rfl, rfl | rfl⟩⟩
  case inl =>
    have HN : Hid (R = runS cmt ex (Sx.put ⟨args, buf, got, tq, false, dq, true, bq, dl, false, false, i + 1⟩ 40) (rns rest)) := by show _ = _; rw [HSW.out]; simp [switchS]
    go_wp2
    (try refine hM _ _ ?_)
    exact ⟨_, _, _, _, rfl, ⟨rfl, rfl, rfl, rfl, rfl, rfl, rfl, rfl, rfl, rfl, rfl, rfl, rfl, rfl, rfl, rfl, rfl, rfl, rfl, (by show Value.int _ _ = Value.int _ _; first | rfl | go_num), rfl⟩, rfl, by first | omega | simp, HN.out, HP2.out⟩
  case inr.inl =>
    have HN : Hid (R = runS cmt ex (Sx.put ⟨args, buf, got, tq, false, true, false, bq, dl, false, false, i + 1⟩ 40) (rns rest)) := by show _ = _; rw [HSW.out]; simp [switchS]
    go_wp2
    (try refine hM _ _ ?_)
    exact ⟨_, _, _, _, rfl, ⟨rfl, rfl, rfl, rfl, rfl, rfl, rfl, rfl, rfl, rfl, rfl, rfl, rfl, rfl, rfl, rfl, rfl, rfl, rfl, (by show Value.int _ _ = Value.int _ _; first | rfl | go_num), rfl⟩, rfl, by first | omega | simp, HN.out, HP2.out⟩
  case inr.inr.inl =>
    have HN : Hid (R = runS cmt ex (Sx.put ⟨args, buf, got, tq, false, false, false, true, dl, false, false, i + 1⟩ 40) (rns rest)) := by show _ = _; rw [HSW.out]; simp [switchS]
    go_wp2
    (try refine hM _ _ ?_)
    exact ⟨_, _, _, _, rfl, ⟨rfl, rfl, rfl, rfl, rfl, rfl, rfl, rfl, rfl, rfl, rfl, rfl, rfl, rfl, rfl, rfl, rfl, rfl, rfl, (by show Value.int _ _ = Value.int _ _; first | rfl | go_num), rfl⟩, rfl, by first | omega | simp, HN.out, HP2.out⟩
  cases dl with
  | true =>
    have HN : Hid (R = none) := by show _ = _; rw [HSW.out]; simp [switchS]
    have kev : wi.cell? ⟨0, 0, none⟩ = some ev := (HB2.out.cell (World.block_lt_of_cell? w _ HEV.out)).trans HEV.out
    go_wp2
    go_quiet (fail)
    go_wp2
    (try refine hE _ _ ?_)
    exact ⟨_, rfl, rfl, rfl, rfl, HN.out, ⟨HB2.out.os, HB2.out.tape, HB2.out.output, HB2.out.size, HB2.out.block⟩⟩
  | false =>
    cases ad with
    | false =>
      have HN : Hid (R = none) := by show _ = _; rw [HSW.out]; simp [switchS]
      have kev : wi.cell? ⟨0, 0, none⟩ = some ev := (HB2.out.cell (World.block_lt_of_cell? w _ HEV.out)).trans HEV.out
      go_wp2
      go_quiet (fail)
      go_wp2
      (try refine hE _ _ ?_)
      exact ⟨_, rfl, rfl, rfl, rfl, HN.out, ⟨HB2.out.os, HB2.out.tape, HB2.out.output, HB2.out.size, HB2.out.block⟩⟩
    | true =>
      have HN : Hid (R = runS cmt ex ⟨args, buf ++ [40], got, tq, false, false, false, false, true, false, false, i + 1⟩ (rns rest)) := by show _ = _; rw [HSW.out]; simp [switchS]
      go_upto_region 72 with fail
      go_wp2_with (at_builtin; refine wpList_append_mv rfl _ _ 23 rfl w.heap.size 5 i1 (.int .u8 0) 1 Tryd.underlying23 hj hy0 hy1 hy2 rfl vb buf.length (byteCells buf) rfl (World.ownsRow.alloc HP2.out.br _) ⟨wi.heap.size, 0, none⟩ 1 1 [.int .u8 40] rfl rfl (one_u8 wi _) (by intro u hu; simp at hu; subst hu; rfl) (by unfold maxLen; skip; omega) (by skip; omega) (by have := HP2.out.bw.size; simp; omega) ?_)
      intro vN1 wN1 hoN hgN hmN
      obtain ⟨aN1, mN1, cN1, rfl⟩ := owns_form hoN
      obtain ⟨e0, e1, e2, hPN⟩ := PW.addBuf1 HK.out HP2.out 40 40 rfl hgN hoN hmN
      have HA := Lib.hid hPN
      clear hPN hoN hgN hmN
      clear cg fg lg ct ft lt cs fs ls cb fb lb
      go_wp2
      generalize wN1.setCell ⟨B0, 0, none⟩ (Value.slice aN1 mN1 cN1) = wa at *
      clear e0 e1 e2
      generalize Value.slice aN1 mN1 cN1 = vN1 at *
      (try refine hK _ _ ?_)
      refine Handed.intro gk (by omega) ?_
      exact ⟨_, ⟨args, buf ++ [40], got, tq, false, false, false, false, true, false, false, i + 1⟩, p ++ a, rest, bt, vN1, _, rfl, ⟨⟨rfl, rfl, rfl, rfl, rfl, rfl, rfl, rfl, rfl, rfl, rfl, rfl, rfl, rfl, rfl, rfl, rfl, rfl, rfl, (by show Value.int _ _ = Value.int _ _; first | rfl | go_num), rfl⟩, HL2.out, by (have := HPA.out; first | omega | (simp <;> omega)), by (have := HPA.out; first | omega | (simp <;> omega)), by (have := HPA.out; first | omega | (simp <;> omega)), by (have := HPA.out; first | omega | (simp <;> omega)), by (have := HPA.out; first | omega | (simp <;> omega)), by (have := HPA.out; first | omega | (simp <;> omega)), HN.out, HA.out⟩, by omega⟩


end Go.Proofs.YthekblmkcfkboaaDoor
