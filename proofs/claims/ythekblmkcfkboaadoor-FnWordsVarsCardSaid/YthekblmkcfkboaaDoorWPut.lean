/- Parse, one round: a rune that means nothing. -/
import Derived.Test.YthekblmkcfkboaaDoorWSw
namespace Go.Proofs.YthekblmkcfkboaaDoor
open Go.RowKit U8
open Go.Lib hiding intOf

set_option maxHeartbeats 12800000 in
set_option maxRecDepth 100000 in
theorem put_any {c : Code} (hc : Tryd.f26.body.bind (aftOf 2) = some c) {w : World} {l : List UInt8} {pp A0 B0 G0 T0 S0 I0 : Nat} {cmt : Bool} {ex : List Nat} {R : Option (List (List UInt8) × Int)} {ev : Value} (X : Cs w l pp A0 B0 G0 T0 S0 cmt ex ev)
  {us : List Value} {args : List (List UInt8)} {buf : List UInt8} {got : Nat} {tq dq sq bq dl : Bool} {i : Int} {p a rest bt : List UInt8} {r : Nat} {vb vk : Value} {wi : World}
  (fr : Fr l pp A0 B0 G0 T0 S0 I0 us ⟨args, buf, got, tq, false, dq, sq, bq, dl, false, false, i + 1⟩ vk (-1)) (s25 : slotV us 25 = .int .i32 r) (he : l = (p ++ a) ++ rest) (hal : 0 < a.length)
  (hargs : args.length ≤ p.length) (hbuf : buf.length ≤ 8 * p.length) (hbt : bt.length ≤ 8 * p.length) (hi0 : -1 ≤ i) (hi1 : i + 1 ≤ p.length) (hsc : Sc r)
  (hr : R = runS cmt ex (Sx.put ⟨args, buf, got, tq, false, dq, sq, bq, dl, false, false, i + 1⟩ r) (rns rest)) (hp : PW w A0 B0 G0 T0 S0 I0 (txt l) (p ++ a).length vb vk args buf bt got tq wi)
  {gk0 : Nat} (hg : a.length + rest.length < gk0) {Q : Exit → Act → World → Prop}
  (hK : ∀ a' w', Handed (RInv w l pp A0 B0 G0 T0 S0 I0 cmt ex R) gk0 a' w' → Q .normal a' w') :
  c.wp Tryd.prog Q ⟨us.toArray, []⟩ wi := by
  have hcc : Tryd.f26.body.bind (aftOf 2) = some _ := rfl
  rw [hc] at hcc
  cases hcc
  obtain ⟨i1, hj, hy0, hy1, hy2⟩ := info_parts Tryd.infoByte
  obtain ⟨hl, hxl, hpp, hc0, hc1, hE0, hev, k⟩ := X
  have HK := Lib.hid k
  obtain ⟨hn, s0, s1, s6, s7, s8, s9, s10, s11, s12, s13, s14, s15, s16, s17, s18, s19, s20, s22, s23, s50⟩ := fr
  dsimp only at s8 s9 s10 s11 s12 s13 s19 s23
  rw [lit_all us hn, s25, s0, s1, s6, s7, s8, s9, s10, s11, s12, s13, s14, s15, s16, s17, s18, s19, s20, s22, s23, s50]
  clear hn s25 s0 s1 s6 s7 s8 s9 s10 s11 s12 s13 s14 s15 s16 s17 s18 s19 s20 s22 s23 s50
  have hri := hsc.i32
  obtain ⟨gk, rfl⟩ : ∃ m, gk0 = m + 1 := ⟨gk0 - 1, by omega⟩
  have hpl : p.length + a.length + rest.length ≤ 100000 := by rw [he] at hl; simp only [List.length_append] at hl; omega
  clear hl
  have HP2 := Lib.hid hp
  have HL2 : Hid (l = (p ++ a) ++ rest) := he
  have HR2 := Lib.hid hr
  clear hp he hr hE0 hc0 hc1 hc hev
  have cg : wi.cell? ⟨G0, 0, none⟩ = some (.int .i64 got) := by simp [World.cell?, HP2.out.g]
  have fg : wi.frozen? ⟨G0, 0, none⟩ = false := by simp [World.frozen?, HP2.out.g]
  have lg : G0 < wi.heap.size := (Array.getElem?_eq_some_iff.1 HP2.out.g).1
  have ct : wi.cell? ⟨T0, 0, none⟩ = some (.bool tq) := by simp [World.cell?, HP2.out.t]
  have ft : wi.frozen? ⟨T0, 0, none⟩ = false := by simp [World.frozen?, HP2.out.t]
  have lt : T0 < wi.heap.size := (Array.getElem?_eq_some_iff.1 HP2.out.t).1
  have cs : wi.cell? ⟨S0, 0, none⟩ = some (.bool false) := by simp [World.cell?, HP2.out.z]
  have fs : wi.frozen? ⟨S0, 0, none⟩ = false := by simp [World.frozen?, HP2.out.z]
  have ls : S0 < wi.heap.size := (Array.getElem?_eq_some_iff.1 HP2.out.z).1
  have cb : wi.cell? ⟨B0, 0, none⟩ = some (vb) := by simp [World.cell?, HP2.out.b]
  have fb : wi.frozen? ⟨B0, 0, none⟩ = false := by simp [World.frozen?, HP2.out.b]
  have lb : B0 < wi.heap.size := (Array.getElem?_eq_some_iff.1 HP2.out.b).1
  have HPA := Lib.hid (@List.length_append _ p a)
  have hE4 := enc1_le r
  have HSC := Lib.hid hsc
  clear hsc
  go_upto_region 124 with fail
  have HG := Lib.hid (HP2.out.setG HK.out 1)
  clear cg fg lg ct ft lt cs fs ls cb fb lb
  generalize wi.setCell ⟨G0, 0, none⟩ (.int .i64 1) = wg at *
  have cg : wg.cell? ⟨G0, 0, none⟩ = some (.int .i64 1) := by simp [World.cell?, HG.out.g]
  have fg : wg.frozen? ⟨G0, 0, none⟩ = false := by simp [World.frozen?, HG.out.g]
  have lg : G0 < wg.heap.size := (Array.getElem?_eq_some_iff.1 HG.out.g).1
  have ct : wg.cell? ⟨T0, 0, none⟩ = some (.bool tq) := by simp [World.cell?, HG.out.t]
  have ft : wg.frozen? ⟨T0, 0, none⟩ = false := by simp [World.frozen?, HG.out.t]
  have lt : T0 < wg.heap.size := (Array.getElem?_eq_some_iff.1 HG.out.t).1
  have cs : wg.cell? ⟨S0, 0, none⟩ = some (.bool false) := by simp [World.cell?, HG.out.z]
  have fs : wg.frozen? ⟨S0, 0, none⟩ = false := by simp [World.frozen?, HG.out.z]
  have ls : S0 < wg.heap.size := (Array.getElem?_eq_some_iff.1 HG.out.z).1
  have cb : wg.cell? ⟨B0, 0, none⟩ = some (vb) := by simp [World.cell?, HG.out.b]
  have fb : wg.frozen? ⟨B0, 0, none⟩ = false := by simp [World.frozen?, HG.out.b]
  have lb : B0 < wg.heap.size := (Array.getElem?_eq_some_iff.1 HG.out.b).1
  go_wp2_with (at_builtin; refine wpList_append_str_mv rfl _ _ 23 9 rfl w.heap.size 5 i1 Tryd.underlying23 Tryd.underlying9 hj hy0 hy1 hy2 vb buf.length (byteCells buf) rfl HG.out.br (txt (enc1 r)) (congrArg Value.string (encode_enc1 r HSC.out)) (by unfold maxLen; rw [txt_size]; skip; omega) (by rw [txt_size]; skip; omega) HG.out.bw.size ?_)
  intro vN2 wN2 hoN hgN hmN
  obtain ⟨aN2, mN2, cN2, rfl⟩ := owns_form hoN
  obtain ⟨e0, e1, e2, hPN⟩ := PW.addBuf HK.out HG.out hgN hoN hmN
  have HB := Lib.hid hPN
  clear hPN hoN hgN hmN
  clear cg fg lg ct ft lt cs fs ls cb fb lb
  go_upto_region 125 with fail
  generalize wN2.setCell ⟨B0, 0, none⟩ (Value.slice aN2 mN2 cN2) = wb at *
  clear e0 e1 e2
  generalize Value.slice aN2 mN2 cN2 = vN2 at *
  rcases (show ((bq = true ∨ (bq = false ∧ dl = true)) ∨ (bq = false ∧ dl = false)) by cases bq <;> cases dl <;> simp) with (rfl | ⟨rfl, rfl⟩) | ⟨rfl, rfl⟩
  case inl.inl =>
    go_upto_region 126 with fail
    go_wp2_with (at_builtin; refine wpList_append_str_mv rfl _ _ 23 9 rfl w.heap.size 5 i1 Tryd.underlying23 Tryd.underlying9 hj hy0 hy1 hy2 _ bt.length (byteCells bt) rfl HB.out.kr (txt (enc1 r)) (congrArg Value.string (encode_enc1 r HSC.out)) (by unfold maxLen; rw [txt_size]; skip; omega) (by rw [txt_size]; skip; omega) HB.out.bw.size ?_)
    intro vN3 wN3 hoN hgN hmN
    have HC := Lib.hid (PW.addBk HB.out hgN hoN hmN)
    clear hoN hgN hmN
    go_upto_region 127 with fail
    by_cases h36 : r = 36
    · subst h36
      rcases (show sq = true ∨ (sq = false ∧ (dq = true ∨ dq = false)) by cases sq <;> cases dq <;> simp) with rfl | ⟨rfl, rfl | rfl⟩
      case inl =>
        have HN : Hid (R = runS cmt ex ⟨args, buf ++ enc1 36, 1, tq, false, dq, true, true, dl, false, false, i + 1⟩ (rns rest)) := by show _ = _; rw [HR2.out]; rfl
        go_wp2
        (try refine hK _ _ ?_)
        refine Handed.intro gk (by omega) ?_
        exact ⟨_, ⟨args, buf ++ enc1 36, 1, tq, false, dq, true, true, dl, false, false, i + 1⟩, p ++ a, rest, (bt ++ enc1 36), vN2, _, rfl, ⟨⟨rfl, rfl, rfl, rfl, rfl, rfl, rfl, rfl, rfl, rfl, rfl, rfl, rfl, rfl, rfl, rfl, rfl, rfl, rfl, (by show Value.int _ _ = Value.int _ _; first | rfl | go_num), rfl⟩, HL2.out, by (have := HPA.out; first | omega | (simp <;> omega)), by (have := HPA.out; first | omega | (simp <;> omega)), by (have := HPA.out; first | omega | (simp <;> omega)), by (have := HPA.out; first | omega | (simp <;> omega)), by (have := HPA.out; first | omega | (simp <;> omega)), by (have := HPA.out; first | omega | (simp <;> omega)), HN.out, HC.out⟩, by omega⟩
      case inr.inl =>
        have HN : Hid (R = runS cmt ex ⟨args, buf ++ enc1 36, 1, tq, false, true, false, true, dl, false, false, i + 1⟩ (rns rest)) := by show _ = _; rw [HR2.out]; rfl
        go_wp2
        (try refine hK _ _ ?_)
        refine Handed.intro gk (by omega) ?_
        exact ⟨_, ⟨args, buf ++ enc1 36, 1, tq, false, true, false, true, dl, false, false, i + 1⟩, p ++ a, rest, (bt ++ enc1 36), vN2, _, rfl, ⟨⟨rfl, rfl, rfl, rfl, rfl, rfl, rfl, rfl, rfl, rfl, rfl, rfl, rfl, rfl, rfl, rfl, rfl, rfl, rfl, (by show Value.int _ _ = Value.int _ _; first | rfl | go_num), rfl⟩, HL2.out, by (have := HPA.out; first | omega | (simp <;> omega)), by (have := HPA.out; first | omega | (simp <;> omega)), by (have := HPA.out; first | omega | (simp <;> omega)), by (have := HPA.out; first | omega | (simp <;> omega)), by (have := HPA.out; first | omega | (simp <;> omega)), by (have := HPA.out; first | omega | (simp <;> omega)), HN.out, HC.out⟩, by omega⟩
      case inr.inr =>
        have HN : Hid (R = runS cmt ex ⟨args, buf ++ enc1 36, 1, tq, false, false, false, true, dl, false, false, i + 1⟩ (rns rest)) := by show _ = _; rw [HR2.out]; rfl
        go_wp2
        (try refine hK _ _ ?_)
        refine Handed.intro gk (by omega) ?_
        exact ⟨_, ⟨args, buf ++ enc1 36, 1, tq, false, false, false, true, dl, false, false, i + 1⟩, p ++ a, rest, (bt ++ enc1 36), vN2, _, rfl, ⟨⟨rfl, rfl, rfl, rfl, rfl, rfl, rfl, rfl, rfl, rfl, rfl, rfl, rfl, rfl, rfl, rfl, rfl, rfl, rfl, (by show Value.int _ _ = Value.int _ _; first | rfl | go_num), rfl⟩, HL2.out, by (have := HPA.out; first | omega | (simp <;> omega)), by (have := HPA.out; first | omega | (simp <;> omega)), by (have := HPA.out; first | omega | (simp <;> omega)), by (have := HPA.out; first | omega | (simp <;> omega)), by (have := HPA.out; first | omega | (simp <;> omega)), by (have := HPA.out; first | omega | (simp <;> omega)), HN.out, HC.out⟩, by omega⟩
    · have e36 : ((r : Int) == 36) = false := by simp; omega
      have b36 : (r == 36) = false := beq_eq_false_iff_ne.2 h36
      have HN : Hid (R = runS cmt ex ⟨args, buf ++ enc1 r, 1, tq, false, dq, sq, true, dl, false, false, i + 1⟩ (rns rest)) := by show _ = _; rw [HR2.out]; unfold Sx.put; rw [b36]; rfl
      clear h36 b36
      go_wp2
      (try refine hK _ _ ?_)
      refine Handed.intro gk (by omega) ?_
      exact ⟨_, ⟨args, buf ++ enc1 r, 1, tq, false, dq, sq, true, dl, false, false, i + 1⟩, p ++ a, rest, (bt ++ enc1 r), vN2, _, rfl, ⟨⟨rfl, rfl, rfl, rfl, rfl, rfl, rfl, rfl, rfl, rfl, rfl, rfl, rfl, rfl, rfl, rfl, rfl, rfl, rfl, (by show Value.int _ _ = Value.int _ _; first | rfl | go_num), rfl⟩, HL2.out, by (have := HPA.out; first | omega | (simp <;> omega)), by (have := HPA.out; first | omega | (simp <;> omega)), by (have := HPA.out; first | omega | (simp <;> omega)), by (have := HPA.out; first | omega | (simp <;> omega)), by (have := HPA.out; first | omega | (simp <;> omega)), by (have := HPA.out; first | omega | (simp <;> omega)), HN.out, HC.out⟩, by omega⟩
  case inl.inr =>
    go_upto_region 126 with fail
    go_wp2_with (at_builtin; refine wpList_append_str_mv rfl _ _ 23 9 rfl w.heap.size 5 i1 Tryd.underlying23 Tryd.underlying9 hj hy0 hy1 hy2 _ bt.length (byteCells bt) rfl HB.out.kr (txt (enc1 r)) (congrArg Value.string (encode_enc1 r HSC.out)) (by unfold maxLen; rw [txt_size]; skip; omega) (by rw [txt_size]; skip; omega) HB.out.bw.size ?_)
    intro vN3 wN3 hoN hgN hmN
    have HC := Lib.hid (PW.addBk HB.out hgN hoN hmN)
    clear hoN hgN hmN
    go_upto_region 127 with fail
    by_cases h36 : r = 36
    · subst h36
      rcases (show sq = true ∨ (sq = false ∧ (dq = true ∨ dq = false)) by cases sq <;> cases dq <;> simp) with rfl | ⟨rfl, rfl | rfl⟩
      case inl =>
        have HN : Hid (R = runS cmt ex ⟨args, buf ++ enc1 36, 1, tq, false, dq, true, false, true, false, false, i + 1⟩ (rns rest)) := by show _ = _; rw [HR2.out]; rfl
        go_wp2
        (try refine hK _ _ ?_)
        refine Handed.intro gk (by omega) ?_
        exact ⟨_, ⟨args, buf ++ enc1 36, 1, tq, false, dq, true, false, true, false, false, i + 1⟩, p ++ a, rest, (bt ++ enc1 36), vN2, _, rfl, ⟨⟨rfl, rfl, rfl, rfl, rfl, rfl, rfl, rfl, rfl, rfl, rfl, rfl, rfl, rfl, rfl, rfl, rfl, rfl, rfl, (by show Value.int _ _ = Value.int _ _; first | rfl | go_num), rfl⟩, HL2.out, by (have := HPA.out; first | omega | (simp <;> omega)), by (have := HPA.out; first | omega | (simp <;> omega)), by (have := HPA.out; first | omega | (simp <;> omega)), by (have := HPA.out; first | omega | (simp <;> omega)), by (have := HPA.out; first | omega | (simp <;> omega)), by (have := HPA.out; first | omega | (simp <;> omega)), HN.out, HC.out⟩, by omega⟩
      case inr.inl =>
        have HN : Hid (R = runS cmt ex ⟨args, buf ++ enc1 36, 1, tq, false, true, false, false, true, false, false, i + 1⟩ (rns rest)) := by show _ = _; rw [HR2.out]; rfl
        go_wp2
        (try refine hK _ _ ?_)
        refine Handed.intro gk (by omega) ?_
        exact ⟨_, ⟨args, buf ++ enc1 36, 1, tq, false, true, false, false, true, false, false, i + 1⟩, p ++ a, rest, (bt ++ enc1 36), vN2, _, rfl, ⟨⟨rfl, rfl, rfl, rfl, rfl, rfl, rfl, rfl, rfl, rfl, rfl, rfl, rfl, rfl, rfl, rfl, rfl, rfl, rfl, (by show Value.int _ _ = Value.int _ _; first | rfl | go_num), rfl⟩, HL2.out, by (have := HPA.out; first | omega | (simp <;> omega)), by (have := HPA.out; first | omega | (simp <;> omega)), by (have := HPA.out; first | omega | (simp <;> omega)), by (have := HPA.out; first | omega | (simp <;> omega)), by (have := HPA.out; first | omega | (simp <;> omega)), by (have := HPA.out; first | omega | (simp <;> omega)), HN.out, HC.out⟩, by omega⟩
      case inr.inr =>
        have HN : Hid (R = runS cmt ex ⟨args, buf ++ enc1 36, 1, tq, false, false, false, false, true, false, false, i + 1⟩ (rns rest)) := by show _ = _; rw [HR2.out]; rfl
        go_wp2
        (try refine hK _ _ ?_)
        refine Handed.intro gk (by omega) ?_
        exact ⟨_, ⟨args, buf ++ enc1 36, 1, tq, false, false, false, false, true, false, false, i + 1⟩, p ++ a, rest, (bt ++ enc1 36), vN2, _, rfl, ⟨⟨rfl, rfl, rfl, rfl, rfl, rfl, rfl, rfl, rfl, rfl, rfl, rfl, rfl, rfl, rfl, rfl, rfl, rfl, rfl, (by show Value.int _ _ = Value.int _ _; first | rfl | go_num), rfl⟩, HL2.out, by (have := HPA.out; first | omega | (simp <;> omega)), by (have := HPA.out; first | omega | (simp <;> omega)), by (have := HPA.out; first | omega | (simp <;> omega)), by (have := HPA.out; first | omega | (simp <;> omega)), by (have := HPA.out; first | omega | (simp <;> omega)), by (have := HPA.out; first | omega | (simp <;> omega)), HN.out, HC.out⟩, by omega⟩
    · have e36 : ((r : Int) == 36) = false := by simp; omega
      have b36 : (r == 36) = false := beq_eq_false_iff_ne.2 h36
      have HN : Hid (R = runS cmt ex ⟨args, buf ++ enc1 r, 1, tq, false, dq, sq, false, true, false, false, i + 1⟩ (rns rest)) := by show _ = _; rw [HR2.out]; unfold Sx.put; rw [b36]; rfl
      clear h36 b36
      go_wp2
      (try refine hK _ _ ?_)
      refine Handed.intro gk (by omega) ?_
      exact ⟨_, ⟨args, buf ++ enc1 r, 1, tq, false, dq, sq, false, true, false, false, i + 1⟩, p ++ a, rest, (bt ++ enc1 r), vN2, _, rfl, ⟨⟨rfl, rfl, rfl, rfl, rfl, rfl, rfl, rfl, rfl, rfl, rfl, rfl, rfl, rfl, rfl, rfl, rfl, rfl, rfl, (by show Value.int _ _ = Value.int _ _; first | rfl | go_num), rfl⟩, HL2.out, by (have := HPA.out; first | omega | (simp <;> omega)), by (have := HPA.out; first | omega | (simp <;> omega)), by (have := HPA.out; first | omega | (simp <;> omega)), by (have := HPA.out; first | omega | (simp <;> omega)), by (have := HPA.out; first | omega | (simp <;> omega)), by (have := HPA.out; first | omega | (simp <;> omega)), HN.out, HC.out⟩, by omega⟩
  case inr =>
    go_upto_region 127 with fail
    by_cases h36 : r = 36
    · subst h36
      rcases (show sq = true ∨ (sq = false ∧ (dq = true ∨ dq = false)) by cases sq <;> cases dq <;> simp) with rfl | ⟨rfl, rfl | rfl⟩
      case inl =>
        have HN : Hid (R = runS cmt ex ⟨args, buf ++ enc1 36, 1, tq, false, dq, true, false, false, false, false, i + 1⟩ (rns rest)) := by show _ = _; rw [HR2.out]; rfl
        go_wp2
        (try refine hK _ _ ?_)
        refine Handed.intro gk (by omega) ?_
        exact ⟨_, ⟨args, buf ++ enc1 36, 1, tq, false, dq, true, false, false, false, false, i + 1⟩, p ++ a, rest, bt, vN2, _, rfl, ⟨⟨rfl, rfl, rfl, rfl, rfl, rfl, rfl, rfl, rfl, rfl, rfl, rfl, rfl, rfl, rfl, rfl, rfl, rfl, rfl, (by show Value.int _ _ = Value.int _ _; first | rfl | go_num), rfl⟩, HL2.out, by (have := HPA.out; first | omega | (simp <;> omega)), by (have := HPA.out; first | omega | (simp <;> omega)), by (have := HPA.out; first | omega | (simp <;> omega)), by (have := HPA.out; first | omega | (simp <;> omega)), by (have := HPA.out; first | omega | (simp <;> omega)), by (have := HPA.out; first | omega | (simp <;> omega)), HN.out, HB.out⟩, by omega⟩
      case inr.inl =>
        have HN : Hid (R = runS cmt ex ⟨args, buf ++ enc1 36, 1, tq, false, true, false, false, false, false, false, i + 1⟩ (rns rest)) := by show _ = _; rw [HR2.out]; rfl
        go_wp2
        (try refine hK _ _ ?_)
        refine Handed.intro gk (by omega) ?_
        exact ⟨_, ⟨args, buf ++ enc1 36, 1, tq, false, true, false, false, false, false, false, i + 1⟩, p ++ a, rest, bt, vN2, _, rfl, ⟨⟨rfl, rfl, rfl, rfl, rfl, rfl, rfl, rfl, rfl, rfl, rfl, rfl, rfl, rfl, rfl, rfl, rfl, rfl, rfl, (by show Value.int _ _ = Value.int _ _; first | rfl | go_num), rfl⟩, HL2.out, by (have := HPA.out; first | omega | (simp <;> omega)), by (have := HPA.out; first | omega | (simp <;> omega)), by (have := HPA.out; first | omega | (simp <;> omega)), by (have := HPA.out; first | omega | (simp <;> omega)), by (have := HPA.out; first | omega | (simp <;> omega)), by (have := HPA.out; first | omega | (simp <;> omega)), HN.out, HB.out⟩, by omega⟩
      case inr.inr =>
        have HN : Hid (R = runS cmt ex ⟨args, buf ++ enc1 36, 1, tq, false, false, false, false, false, false, true, i + 1⟩ (rns rest)) := by show _ = _; rw [HR2.out]; rfl
        go_wp2
        (try refine hK _ _ ?_)
        refine Handed.intro gk (by omega) ?_
        exact ⟨_, ⟨args, buf ++ enc1 36, 1, tq, false, false, false, false, false, false, true, i + 1⟩, p ++ a, rest, bt, vN2, _, rfl, ⟨⟨rfl, rfl, rfl, rfl, rfl, rfl, rfl, rfl, rfl, rfl, rfl, rfl, rfl, rfl, rfl, rfl, rfl, rfl, rfl, (by show Value.int _ _ = Value.int _ _; first | rfl | go_num), rfl⟩, HL2.out, by (have := HPA.out; first | omega | (simp <;> omega)), by (have := HPA.out; first | omega | (simp <;> omega)), by (have := HPA.out; first | omega | (simp <;> omega)), by (have := HPA.out; first | omega | (simp <;> omega)), by (have := HPA.out; first | omega | (simp <;> omega)), by (have := HPA.out; first | omega | (simp <;> omega)), HN.out, HB.out⟩, by omega⟩
    · have e36 : ((r : Int) == 36) = false := by simp; omega
      have b36 : (r == 36) = false := beq_eq_false_iff_ne.2 h36
      have HN : Hid (R = runS cmt ex ⟨args, buf ++ enc1 r, 1, tq, false, dq, sq, false, false, false, false, i + 1⟩ (rns rest)) := by show _ = _; rw [HR2.out]; unfold Sx.put; rw [b36]; rfl
      clear h36 b36
      go_wp2
      (try refine hK _ _ ?_)
      refine Handed.intro gk (by omega) ?_
      exact ⟨_, ⟨args, buf ++ enc1 r, 1, tq, false, dq, sq, false, false, false, false, i + 1⟩, p ++ a, rest, bt, vN2, _, rfl, ⟨⟨rfl, rfl, rfl, rfl, rfl, rfl, rfl, rfl, rfl, rfl, rfl, rfl, rfl, rfl, rfl, rfl, rfl, rfl, rfl, (by show Value.int _ _ = Value.int _ _; first | rfl | go_num), rfl⟩, HL2.out, by (have := HPA.out; first | omega | (simp <;> omega)), by (have := HPA.out; first | omega | (simp <;> omega)), by (have := HPA.out; first | omega | (simp <;> omega)), by (have := HPA.out; first | omega | (simp <;> omega)), by (have := HPA.out; first | omega | (simp <;> omega)), by (have := HPA.out; first | omega | (simp <;> omega)), HN.out, HB.out⟩, by omega⟩

end Go.Proofs.YthekblmkcfkboaaDoor
