/- Parse, one round: the switch at quotes, a dollar sign, a number sign. -/
import Derived.Test.YthekblmkcfkboaaDoorWSw
import Derived.Test.YthekblmkcfkboaaDoorPcs
namespace Go.Proofs.YthekblmkcfkboaaDoor
open Go.RowKit U8
open Go.Lib hiding intOf

set_option maxHeartbeats 12800000 in
set_option maxRecDepth 100000 in
theorem sw_34 {c : Code} (hc : Tryd.f26.body.bind (blkOf 2) = some c) {w : World} {l : List UInt8} {pp A0 B0 G0 T0 S0 I0 : Nat} {cmt : Bool} {ex : List Nat} {R : Option (List (List UInt8) × Int)} {ev : Value} (X : Cs w l pp A0 B0 G0 T0 S0 cmt ex ev)
  {us : List Value} {args : List (List UInt8)} {buf : List UInt8} {got : Nat} {tq dq sq bq dl ad : Bool} {i : Int} {p a rest bt : List UInt8} {r : Nat} {vb vk : Value} {wi : World}
  (H : Sw w l pp A0 B0 G0 T0 S0 I0 cmt ex R us args buf got tq dq sq bq dl ad i p a rest bt r vb vk wi)
  (hr : r = 34) {gk0 : Nat} (hg : a.length + rest.length < gk0) {K : Act → World → Prop} {Q : Exit → Act → World → Prop}
  (hM : ∀ a' w', MInv w l pp A0 B0 G0 T0 S0 I0 cmt ex R args buf got tq dq sq dl i p a rest bt r vb a' w' → K a' w')
  (hK : ∀ a' w', Handed (RInv w l pp A0 B0 G0 T0 S0 I0 cmt ex R) gk0 a' w' → Q (.exit 1) a' w') (_hB : ∀ a' w', BInv w l pp A0 B0 G0 T0 S0 I0 R a' w' → Q (.exit 0) a' w') (_hE : ∀ a' w', EInv w ev R a' w' → Q .ret a' w') :
  c.wp Tryd.prog (Exit.then K Q) ⟨us.toArray, []⟩ wi := by
  have hcc : Tryd.f26.body.bind (blkOf 2) = some _ := rfl
  rw [hc] at hcc
  cases hcc
  obtain ⟨i1, hj, hy0, hy1, hy2⟩ := info_parts Tryd.infoByte
  obtain ⟨hl, hxl, hpp, hc0, hc1, hE0, hev, k⟩ := X
  have HK := Lib.hid k
  obtain ⟨fr, s25, s26, s140, he, hal, hgot, hargs, hbuf, hbt, hi0, hi1, hsc, hsw, hp⟩ := H
  obtain ⟨hn, s0, s1, s6, s7, s8, s9, s10, s11, s12, s13, s14, s15, s16, s17, s18, s19, s20, s22, s23, s50⟩ := fr
  dsimp only at s8 s9 s10 s11 s12 s13 s19 s23
  rw [lit_all us hn, s25, s26, s140, s0, s1, s6, s7, s8, s9, s10, s11, s12, s13, s14, s15, s16, s17, s18, s19, s20, s22, s23, s50]
  clear hn s25 s26 s140 s0 s1 s6 s7 s8 s9 s10 s11 s12 s13 s14 s15 s16 s17 s18 s19 s20 s22 s23 s50
  have hri := hsc.i32
  obtain ⟨gk, rfl⟩ : ∃ m, gk0 = m + 1 := ⟨gk0 - 1, by omega⟩
  have hpl : p.length + a.length + rest.length ≤ 100000 := by rw [he] at hl; simp only [List.length_append] at hl; omega
  have hpl2 : p.length + a.length ≤ l.length := by rw [he]; simp only [List.length_append]; omega
  clear hl
  have HP2 := Lib.hid hp
  have HL2 : Hid (l = (p ++ a) ++ rest) := he
  have HSW := Lib.hid hsw
  clear hp he hsw
  have hbw := HP2.out.bw
  have hbk := hbw.block pp hpp
  have k0 : wi.cell? ⟨pp, 0, none⟩ = some (.bool false) := (World.cell?_of_block hbk).trans hc0
  have k1 : wi.cell? ⟨pp, 1, none⟩ = some (.bool cmt) := (World.cell?_of_block hbk).trans hc1
  have HB2 := Lib.hid hbw
  have HEV := Lib.hid hev
  clear hbw hbk hE0 hc0 hc1 hc hev
  have cg : wi.cell? ⟨G0, 0, none⟩ = some (.int .i64 got) := by simp [World.cell?, HP2.out.g]
  have fg : wi.frozen? ⟨G0, 0, none⟩ = false := by simp [World.frozen?, HP2.out.g]
  have lg : G0 < wi.heap.size := (Array.getElem?_eq_some_iff.1 HP2.out.g).1
  have ct : wi.cell? ⟨T0, 0, none⟩ = some (.bool tq) := by simp [World.cell?, HP2.out.t]
  have ft : wi.frozen? ⟨T0, 0, none⟩ = false := by simp [World.frozen?, HP2.out.t]
  have lt : T0 < wi.heap.size := (Array.getElem?_eq_some_iff.1 HP2.out.t).1
  have cs : wi.cell? ⟨S0, 0, none⟩ = some (.bool false) := by simp [World.cell?, HP2.out.z]
  have fs : wi.frozen? ⟨S0, 0, none⟩ = false := by simp [World.frozen?, HP2.out.z]
  have ls : S0 < wi.heap.size := (Array.getElem?_eq_some_iff.1 HP2.out.z).1
  have cb : wi.cell? ⟨B0, 0, none⟩ = some (vb) := by simp [World.cell?, HP2.out.b]
  have fb : wi.frozen? ⟨B0, 0, none⟩ = false := by simp [World.frozen?, HP2.out.b]
  have lb : B0 < wi.heap.size := (Array.getElem?_eq_some_iff.1 HP2.out.b).1
  have HPA := Lib.hid (@List.length_append _ p a)
  have hE4 := enc1_le r
  have HSC := Lib.hid hsc
  clear hsc
  subst hr
  rcases (show sq = true ∨ (sq = false ∧ (dl = true ∨ (dl = false ∧ (bq = true ∨ bq = false)))) by cases sq <;> cases dl <;> cases bq <;> simp) with rfl | ⟨rfl, rfl | ⟨rfl, rfl | rfl⟩⟩
  case inl =>
    have HN : Hid (R = runS cmt ex (Sx.put ⟨args, buf, got, tq, false, dq, true, bq, dl, false, false, i + 1⟩ 34) (rns rest)) := by show _ = _; rw [HSW.out]; simp [switchS]
    go_wp2
    (try refine hM _ _ ?_)
    exact ⟨_, _, _, _, rfl, ⟨rfl, rfl, rfl, rfl, rfl, rfl, rfl, rfl, rfl, rfl, rfl, rfl, rfl, rfl, rfl, rfl, rfl, rfl, rfl, (by show Value.int _ _ = Value.int _ _; first | rfl | go_num), rfl⟩, rfl, by first | omega | simp, HN.out, HP2.out⟩
  case inr.inl =>
    have HN : Hid (R = runS cmt ex (Sx.put ⟨args, buf, got, tq, false, dq, false, bq, true, false, false, i + 1⟩ 34) (rns rest)) := by show _ = _; rw [HSW.out]; simp [switchS]
    go_wp2
    (try refine hM _ _ ?_)
    exact ⟨_, _, _, _, rfl, ⟨rfl, rfl, rfl, rfl, rfl, rfl, rfl, rfl, rfl, rfl, rfl, rfl, rfl, rfl, rfl, rfl, rfl, rfl, rfl, (by show Value.int _ _ = Value.int _ _; first | rfl | go_num), rfl⟩, rfl, by first | omega | simp, HN.out, HP2.out⟩
  case inr.inr.inl =>
    have HN : Hid (R = runS cmt ex (Sx.put ⟨args, buf, got, tq, false, dq, false, true, false, false, false, i + 1⟩ 34) (rns rest)) := by show _ = _; rw [HSW.out]; simp [switchS]
    go_wp2
    (try refine hM _ _ ?_)
    exact ⟨_, _, _, _, rfl, ⟨rfl, rfl, rfl, rfl, rfl, rfl, rfl, rfl, rfl, rfl, rfl, rfl, rfl, rfl, rfl, rfl, rfl, rfl, rfl, (by show Value.int _ _ = Value.int _ _; first | rfl | go_num), rfl⟩, rfl, by first | omega | simp, HN.out, HP2.out⟩
  cases dq with
  | true =>
    have HN : Hid (R = runS cmt ex ⟨args, buf, 2, true, false, false, false, false, false, false, false, i + 1⟩ (rns rest)) := by show _ = _; rw [HSW.out]; simp [switchS]
    go_upto_region 78 with fail
    have HA := Lib.hid (HP2.out.setG HK.out 2)
    clear cg fg lg ct ft lt cs fs ls cb fb lb
    generalize wi.setCell ⟨G0, 0, none⟩ (.int .i64 2) = wa at *
    have cg : wa.cell? ⟨G0, 0, none⟩ = some (.int .i64 2) := by simp [World.cell?, HA.out.g]
    have fg : wa.frozen? ⟨G0, 0, none⟩ = false := by simp [World.frozen?, HA.out.g]
    have lg : G0 < wa.heap.size := (Array.getElem?_eq_some_iff.1 HA.out.g).1
    have ct : wa.cell? ⟨T0, 0, none⟩ = some (.bool tq) := by simp [World.cell?, HA.out.t]
    have ft : wa.frozen? ⟨T0, 0, none⟩ = false := by simp [World.frozen?, HA.out.t]
    have lt : T0 < wa.heap.size := (Array.getElem?_eq_some_iff.1 HA.out.t).1
    have cs : wa.cell? ⟨S0, 0, none⟩ = some (.bool false) := by simp [World.cell?, HA.out.z]
    have fs : wa.frozen? ⟨S0, 0, none⟩ = false := by simp [World.frozen?, HA.out.z]
    have ls : S0 < wa.heap.size := (Array.getElem?_eq_some_iff.1 HA.out.z).1
    have cb : wa.cell? ⟨B0, 0, none⟩ = some (vb) := by simp [World.cell?, HA.out.b]
    have fb : wa.frozen? ⟨B0, 0, none⟩ = false := by simp [World.frozen?, HA.out.b]
    have lb : B0 < wa.heap.size := (Array.getElem?_eq_some_iff.1 HA.out.b).1
    have HB := Lib.hid (HA.out.setT HK.out true)
    go_wp2
    (try refine hK _ _ ?_)
    refine Handed.intro gk (by omega) ?_
    exact ⟨_, ⟨args, buf, 2, true, false, false, false, false, false, false, false, i + 1⟩, p ++ a, rest, bt, vb, _, rfl, ⟨⟨rfl, rfl, rfl, rfl, rfl, rfl, rfl, rfl, rfl, rfl, rfl, rfl, rfl, rfl, rfl, rfl, rfl, rfl, rfl, (by show Value.int _ _ = Value.int _ _; first | rfl | go_num), rfl⟩, HL2.out, by (have := HPA.out; first | omega | (simp <;> omega)), by (have := HPA.out; first | omega | (simp <;> omega)), by (have := HPA.out; first | omega | (simp <;> omega)), by (have := HPA.out; first | omega | (simp <;> omega)), by (have := HPA.out; first | omega | (simp <;> omega)), by (have := HPA.out; first | omega | (simp <;> omega)), HN.out, HB.out⟩, by omega⟩
  | false =>
    have HN : Hid (R = runS cmt ex ⟨args, buf, got, true, false, true, false, false, false, false, false, i + 1⟩ (rns rest)) := by show _ = _; rw [HSW.out]; simp [switchS]
    have HB := Lib.hid (HP2.out.setT HK.out true)
    go_wp2
    (try refine hK _ _ ?_)
    refine Handed.intro gk (by omega) ?_
    exact ⟨_, ⟨args, buf, got, true, false, true, false, false, false, false, false, i + 1⟩, p ++ a, rest, bt, vb, _, rfl, ⟨⟨rfl, rfl, rfl, rfl, rfl, rfl, rfl, rfl, rfl, rfl, rfl, rfl, rfl, rfl, rfl, rfl, rfl, rfl, rfl, (by show Value.int _ _ = Value.int _ _; first | rfl | go_num), rfl⟩, HL2.out, by (have := HPA.out; first | omega | (simp <;> omega)), by (have := HPA.out; first | omega | (simp <;> omega)), by (have := HPA.out; first | omega | (simp <;> omega)), by (have := HPA.out; first | omega | (simp <;> omega)), by (have := HPA.out; first | omega | (simp <;> omega)), by (have := HPA.out; first | omega | (simp <;> omega)), HN.out, HB.out⟩, by omega⟩


set_option maxHeartbeats 12800000 in
set_option maxRecDepth 100000 in
theorem sw_39 {c : Code} (hc : Tryd.f26.body.bind (blkOf 2) = some c) {w : World} {l : List UInt8} {pp A0 B0 G0 T0 S0 I0 : Nat} {cmt : Bool} {ex : List Nat} {R : Option (List (List UInt8) × Int)} {ev : Value} (X : Cs w l pp A0 B0 G0 T0 S0 cmt ex ev)
  {us : List Value} {args : List (List UInt8)} {buf : List UInt8} {got : Nat} {tq dq sq bq dl ad : Bool} {i : Int} {p a rest bt : List UInt8} {r : Nat} {vb vk : Value} {wi : World}
  (H : Sw w l pp A0 B0 G0 T0 S0 I0 cmt ex R us args buf got tq dq sq bq dl ad i p a rest bt r vb vk wi)
  (hr : r = 39) {gk0 : Nat} (hg : a.length + rest.length < gk0) {K : Act → World → Prop} {Q : Exit → Act → World → Prop}
  (hM : ∀ a' w', MInv w l pp A0 B0 G0 T0 S0 I0 cmt ex R args buf got tq dq sq dl i p a rest bt r vb a' w' → K a' w')
  (hK : ∀ a' w', Handed (RInv w l pp A0 B0 G0 T0 S0 I0 cmt ex R) gk0 a' w' → Q (.exit 1) a' w') (_hB : ∀ a' w', BInv w l pp A0 B0 G0 T0 S0 I0 R a' w' → Q (.exit 0) a' w') (_hE : ∀ a' w', EInv w ev R a' w' → Q .ret a' w') :
  c.wp Tryd.prog (Exit.then K Q) ⟨us.toArray, []⟩ wi := by
  have hcc : Tryd.f26.body.bind (blkOf 2) = some _ := rfl
  rw [hc] at hcc
  cases hcc
  obtain ⟨i1, hj, hy0, hy1, hy2⟩ := info_parts Tryd.infoByte
  obtain ⟨hl, hxl, hpp, hc0, hc1, hE0, hev, k⟩ := X
  have HK := Lib.hid k
  obtain ⟨fr, s25, s26, s140, he, hal, hgot, hargs, hbuf, hbt, hi0, hi1, hsc, hsw, hp⟩ := H
  obtain ⟨hn, s0, s1, s6, s7, s8, s9, s10, s11, s12, s13, s14, s15, s16, s17, s18, s19, s20, s22, s23, s50⟩ := fr
  dsimp only at s8 s9 s10 s11 s12 s13 s19 s23
  rw [lit_all us hn, s25, s26, s140, s0, s1, s6, s7, s8, s9, s10, s11, s12, s13, s14, s15, s16, s17, s18, s19, s20, s22, s23, s50]
  clear hn s25 s26 s140 s0 s1 s6 s7 s8 s9 s10 s11 s12 s13 s14 s15 s16 s17 s18 s19 s20 s22 s23 s50
  have hri := hsc.i32
  obtain ⟨gk, rfl⟩ : ∃ m, gk0 = m + 1 := ⟨gk0 - 1, by omega⟩
  have hpl : p.length + a.length + rest.length ≤ 100000 := by rw [he] at hl; simp only [List.length_append] at hl; omega
  have hpl2 : p.length + a.length ≤ l.length := by rw [he]; simp only [List.length_append]; omega
  clear hl
  have HP2 := Lib.hid hp
  have HL2 : Hid (l = (p ++ a) ++ rest) := he
  have HSW := Lib.hid hsw
  clear hp he hsw
  have hbw := HP2.out.bw
  have hbk := hbw.block pp hpp
  have k0 : wi.cell? ⟨pp, 0, none⟩ = some (.bool false) := (World.cell?_of_block hbk).trans hc0
  have k1 : wi.cell? ⟨pp, 1, none⟩ = some (.bool cmt) := (World.cell?_of_block hbk).trans hc1
  have HB2 := Lib.hid hbw
  have HEV := Lib.hid hev
  clear hbw hbk hE0 hc0 hc1 hc hev
  have cg : wi.cell? ⟨G0, 0, none⟩ = some (.int .i64 got) := by simp [World.cell?, HP2.out.g]
  have fg : wi.frozen? ⟨G0, 0, none⟩ = false := by simp [World.frozen?, HP2.out.g]
  have lg : G0 < wi.heap.size := (Array.getElem?_eq_some_iff.1 HP2.out.g).1
  have ct : wi.cell? ⟨T0, 0, none⟩ = some (.bool tq) := by simp [World.cell?, HP2.out.t]
  have ft : wi.frozen? ⟨T0, 0, none⟩ = false := by simp [World.frozen?, HP2.out.t]
  have lt : T0 < wi.heap.size := (Array.getElem?_eq_some_iff.1 HP2.out.t).1
  have cs : wi.cell? ⟨S0, 0, none⟩ = some (.bool false) := by simp [World.cell?, HP2.out.z]
  have fs : wi.frozen? ⟨S0, 0, none⟩ = false := by simp [World.frozen?, HP2.out.z]
  have ls : S0 < wi.heap.size := (Array.getElem?_eq_some_iff.1 HP2.out.z).1
  have cb : wi.cell? ⟨B0, 0, none⟩ = some (vb) := by simp [World.cell?, HP2.out.b]
  have fb : wi.frozen? ⟨B0, 0, none⟩ = false := by simp [World.frozen?, HP2.out.b]
  have lb : B0 < wi.heap.size := (Array.getElem?_eq_some_iff.1 HP2.out.b).1
  have HPA := Lib.hid (@List.length_append _ p a)
  have hE4 := enc1_le r
  have HSC := Lib.hid hsc
  clear hsc
  subst hr
  rcases (show dq = true ∨ (dq = false ∧ (dl = true ∨ (dl = false ∧ (bq = true ∨ bq = false)))) by cases dq <;> cases dl <;> cases bq <;> simp) with rfl | ⟨rfl, rfl | ⟨rfl, rfl | rfl⟩⟩
  case inl =>
    have HN : Hid (R = runS cmt ex (Sx.put ⟨args, buf, got, tq, false, true, sq, bq, dl, false, false, i + 1⟩ 39) (rns rest)) := by show _ = _; rw [HSW.out]; simp [switchS]
    go_wp2
    (try refine hM _ _ ?_)
    exact ⟨_, _, _, _, rfl, ⟨rfl, rfl, rfl, rfl, rfl, rfl, rfl, rfl, rfl, rfl, rfl, rfl, rfl, rfl, rfl, rfl, rfl, rfl, rfl, (by show Value.int _ _ = Value.int _ _; first | rfl | go_num), rfl⟩, rfl, by first | omega | simp, HN.out, HP2.out⟩
  case inr.inl =>
    have HN : Hid (R = runS cmt ex (Sx.put ⟨args, buf, got, tq, false, false, sq, bq, true, false, false, i + 1⟩ 39) (rns rest)) := by show _ = _; rw [HSW.out]; simp [switchS]
    go_wp2
    (try refine hM _ _ ?_)
    exact ⟨_, _, _, _, rfl, ⟨rfl, rfl, rfl, rfl, rfl, rfl, rfl, rfl, rfl, rfl, rfl, rfl, rfl, rfl, rfl, rfl, rfl, rfl, rfl, (by show Value.int _ _ = Value.int _ _; first | rfl | go_num), rfl⟩, rfl, by first | omega | simp, HN.out, HP2.out⟩
  case inr.inr.inl =>
    have HN : Hid (R = runS cmt ex (Sx.put ⟨args, buf, got, tq, false, false, sq, true, false, false, false, i + 1⟩ 39) (rns rest)) := by show _ = _; rw [HSW.out]; simp [switchS]
    go_wp2
    (try refine hM _ _ ?_)
    exact ⟨_, _, _, _, rfl, ⟨rfl, rfl, rfl, rfl, rfl, rfl, rfl, rfl, rfl, rfl, rfl, rfl, rfl, rfl, rfl, rfl, rfl, rfl, rfl, (by show Value.int _ _ = Value.int _ _; first | rfl | go_num), rfl⟩, rfl, by first | omega | simp, HN.out, HP2.out⟩
  cases sq with
  | true =>
    have HN : Hid (R = runS cmt ex ⟨args, buf, 2, true, false, false, false, false, false, false, false, i + 1⟩ (rns rest)) := by show _ = _; rw [HSW.out]; simp [switchS]
    go_upto_region 84 with fail
    have HA := Lib.hid (HP2.out.setG HK.out 2)
    clear cg fg lg ct ft lt cs fs ls cb fb lb
    generalize wi.setCell ⟨G0, 0, none⟩ (.int .i64 2) = wa at *
    have cg : wa.cell? ⟨G0, 0, none⟩ = some (.int .i64 2) := by simp [World.cell?, HA.out.g]
    have fg : wa.frozen? ⟨G0, 0, none⟩ = false := by simp [World.frozen?, HA.out.g]
    have lg : G0 < wa.heap.size := (Array.getElem?_eq_some_iff.1 HA.out.g).1
    have ct : wa.cell? ⟨T0, 0, none⟩ = some (.bool tq) := by simp [World.cell?, HA.out.t]
    have ft : wa.frozen? ⟨T0, 0, none⟩ = false := by simp [World.frozen?, HA.out.t]
    have lt : T0 < wa.heap.size := (Array.getElem?_eq_some_iff.1 HA.out.t).1
    have cs : wa.cell? ⟨S0, 0, none⟩ = some (.bool false) := by simp [World.cell?, HA.out.z]
    have fs : wa.frozen? ⟨S0, 0, none⟩ = false := by simp [World.frozen?, HA.out.z]
    have ls : S0 < wa.heap.size := (Array.getElem?_eq_some_iff.1 HA.out.z).1
    have cb : wa.cell? ⟨B0, 0, none⟩ = some (vb) := by simp [World.cell?, HA.out.b]
    have fb : wa.frozen? ⟨B0, 0, none⟩ = false := by simp [World.frozen?, HA.out.b]
    have lb : B0 < wa.heap.size := (Array.getElem?_eq_some_iff.1 HA.out.b).1
    have HB := Lib.hid (HA.out.setT HK.out true)
    go_wp2
    (try refine hK _ _ ?_)
    refine Handed.intro gk (by omega) ?_
    exact ⟨_, ⟨args, buf, 2, true, false, false, false, false, false, false, false, i + 1⟩, p ++ a, rest, bt, vb, _, rfl, ⟨⟨rfl, rfl, rfl, rfl, rfl, rfl, rfl, rfl, rfl, rfl, rfl, rfl, rfl, rfl, rfl, rfl, rfl, rfl, rfl, (by show Value.int _ _ = Value.int _ _; first | rfl | go_num), rfl⟩, HL2.out, by (have := HPA.out; first | omega | (simp <;> omega)), by (have := HPA.out; first | omega | (simp <;> omega)), by (have := HPA.out; first | omega | (simp <;> omega)), by (have := HPA.out; first | omega | (simp <;> omega)), by (have := HPA.out; first | omega | (simp <;> omega)), by (have := HPA.out; first | omega | (simp <;> omega)), HN.out, HB.out⟩, by omega⟩
  | false =>
    have HN : Hid (R = runS cmt ex ⟨args, buf, got, true, false, false, true, false, false, false, false, i + 1⟩ (rns rest)) := by show _ = _; rw [HSW.out]; simp [switchS]
    have HB := Lib.hid (HP2.out.setT HK.out true)
    go_wp2
    (try refine hK _ _ ?_)
    refine Handed.intro gk (by omega) ?_
    exact ⟨_, ⟨args, buf, got, true, false, false, true, false, false, false, false, i + 1⟩, p ++ a, rest, bt, vb, _, rfl, ⟨⟨rfl, rfl, rfl, rfl, rfl, rfl, rfl, rfl, rfl, rfl, rfl, rfl, rfl, rfl, rfl, rfl, rfl, rfl, rfl, (by show Value.int _ _ = Value.int _ _; first | rfl | go_num), rfl⟩, HL2.out, by (have := HPA.out; first | omega | (simp <;> omega)), by (have := HPA.out; first | omega | (simp <;> omega)), by (have := HPA.out; first | omega | (simp <;> omega)), by (have := HPA.out; first | omega | (simp <;> omega)), by (have := HPA.out; first | omega | (simp <;> omega)), by (have := HPA.out; first | omega | (simp <;> omega)), HN.out, HB.out⟩, by omega⟩


set_option maxHeartbeats 12800000 in
set_option maxRecDepth 100000 in
theorem sw_36 {c : Code} (hc : Tryd.f26.body.bind (blkOf 2) = some c) {w : World} {l : List UInt8} {pp A0 B0 G0 T0 S0 I0 : Nat} {cmt : Bool} {ex : List Nat} {R : Option (List (List UInt8) × Int)} {ev : Value} (X : Cs w l pp A0 B0 G0 T0 S0 cmt ex ev)
  {us : List Value} {args : List (List UInt8)} {buf : List UInt8} {got : Nat} {tq dq sq bq dl ad : Bool} {i : Int} {p a rest bt : List UInt8} {r : Nat} {vb vk : Value} {wi : World}
  (H : Sw w l pp A0 B0 G0 T0 S0 I0 cmt ex R us args buf got tq dq sq bq dl ad i p a rest bt r vb vk wi)
  (hr : r = 36) {gk0 : Nat} (hg : a.length + rest.length < gk0) {K : Act → World → Prop} {Q : Exit → Act → World → Prop}
  (hM : ∀ a' w', MInv w l pp A0 B0 G0 T0 S0 I0 cmt ex R args buf got tq dq sq dl i p a rest bt r vb a' w' → K a' w')
  (_hK : ∀ a' w', Handed (RInv w l pp A0 B0 G0 T0 S0 I0 cmt ex R) gk0 a' w' → Q (.exit 1) a' w') (_hB : ∀ a' w', BInv w l pp A0 B0 G0 T0 S0 I0 R a' w' → Q (.exit 0) a' w') (_hE : ∀ a' w', EInv w ev R a' w' → Q .ret a' w') :
  c.wp Tryd.prog (Exit.then K Q) ⟨us.toArray, []⟩ wi := by
  have hcc : Tryd.f26.body.bind (blkOf 2) = some _ := rfl
  rw [hc] at hcc
  cases hcc
  obtain ⟨i1, hj, hy0, hy1, hy2⟩ := info_parts Tryd.infoByte
  obtain ⟨hl, hxl, hpp, hc0, hc1, hE0, hev, k⟩ := X
  have HK := Lib.hid k
  obtain ⟨fr, s25, s26, s140, he, hal, hgot, hargs, hbuf, hbt, hi0, hi1, hsc, hsw, hp⟩ := H
  obtain ⟨hn, s0, s1, s6, s7, s8, s9, s10, s11, s12, s13, s14, s15, s16, s17, s18, s19, s20, s22, s23, s50⟩ := fr
  dsimp only at s8 s9 s10 s11 s12 s13 s19 s23
  rw [lit_all us hn, s25, s26, s140, s0, s1, s6, s7, s8, s9, s10, s11, s12, s13, s14, s15, s16, s17, s18, s19, s20, s22, s23, s50]
  clear hn s25 s26 s140 s0 s1 s6 s7 s8 s9 s10 s11 s12 s13 s14 s15 s16 s17 s18 s19 s20 s22 s23 s50
  have hri := hsc.i32
  obtain ⟨gk, rfl⟩ : ∃ m, gk0 = m + 1 := ⟨gk0 - 1, by omega⟩
  have hpl : p.length + a.length + rest.length ≤ 100000 := by rw [he] at hl; simp only [List.length_append] at hl; omega
  have hpl2 : p.length + a.length ≤ l.length := by rw [he]; simp only [List.length_append]; omega
  clear hl
  have HP2 := Lib.hid hp
  have HL2 : Hid (l = (p ++ a) ++ rest) := he
  have HSW := Lib.hid hsw
  clear hp he hsw
  have hbw := HP2.out.bw
  have hbk := hbw.block pp hpp
  have k0 : wi.cell? ⟨pp, 0, none⟩ = some (.bool false) := (World.cell?_of_block hbk).trans hc0
  have k1 : wi.cell? ⟨pp, 1, none⟩ = some (.bool cmt) := (World.cell?_of_block hbk).trans hc1
  have HB2 := Lib.hid hbw
  have HEV := Lib.hid hev
  clear hbw hbk hE0 hc0 hc1 hc hev
  have cg : wi.cell? ⟨G0, 0, none⟩ = some (.int .i64 got) := by simp [World.cell?, HP2.out.g]
  have fg : wi.frozen? ⟨G0, 0, none⟩ = false := by simp [World.frozen?, HP2.out.g]
  have lg : G0 < wi.heap.size := (Array.getElem?_eq_some_iff.1 HP2.out.g).1
  have ct : wi.cell? ⟨T0, 0, none⟩ = some (.bool tq) := by simp [World.cell?, HP2.out.t]
  have ft : wi.frozen? ⟨T0, 0, none⟩ = false := by simp [World.frozen?, HP2.out.t]
  have lt : T0 < wi.heap.size := (Array.getElem?_eq_some_iff.1 HP2.out.t).1
  have cs : wi.cell? ⟨S0, 0, none⟩ = some (.bool false) := by simp [World.cell?, HP2.out.z]
  have fs : wi.frozen? ⟨S0, 0, none⟩ = false := by simp [World.frozen?, HP2.out.z]
  have ls : S0 < wi.heap.size := (Array.getElem?_eq_some_iff.1 HP2.out.z).1
  have cb : wi.cell? ⟨B0, 0, none⟩ = some (vb) := by simp [World.cell?, HP2.out.b]
  have fb : wi.frozen? ⟨B0, 0, none⟩ = false := by simp [World.frozen?, HP2.out.b]
  have lb : B0 < wi.heap.size := (Array.getElem?_eq_some_iff.1 HP2.out.b).1
  have HPA := Lib.hid (@List.length_append _ p a)
  have hE4 := enc1_le r
  have HSC := Lib.hid hsc
  clear hsc
  subst hr
  have HN : Hid (R = runS cmt ex (Sx.put ⟨args, buf, got, tq, false, dq, sq, bq, dl, false, false, i + 1⟩ 36) (rns rest)) := by show _ = _; rw [HSW.out]; simp [switchS]
  go_wp2
  (try refine hM _ _ ?_)
  exact ⟨_, _, _, _, rfl, ⟨rfl, rfl, rfl, rfl, rfl, rfl, rfl, rfl, rfl, rfl, rfl, rfl, rfl, rfl, rfl, rfl, rfl, rfl, rfl, (by show Value.int _ _ = Value.int _ _; first | rfl | go_num), rfl⟩, rfl, by first | omega | simp, HN.out, HP2.out⟩


set_option maxHeartbeats 12800000 in
set_option maxRecDepth 100000 in
theorem sw_35 {c : Code} (hc : Tryd.f26.body.bind (blkOf 2) = some c) {w : World} {l : List UInt8} {pp A0 B0 G0 T0 S0 I0 : Nat} {cmt : Bool} {ex : List Nat} {R : Option (List (List UInt8) × Int)} {ev : Value} (X : Cs w l pp A0 B0 G0 T0 S0 cmt ex ev)
  {us : List Value} {args : List (List UInt8)} {buf : List UInt8} {got : Nat} {tq dq sq bq dl ad : Bool} {i : Int} {p a rest bt : List UInt8} {r : Nat} {vb vk : Value} {wi : World}
  (H : Sw w l pp A0 B0 G0 T0 S0 I0 cmt ex R us args buf got tq dq sq bq dl ad i p a rest bt r vb vk wi)
  (hr : r = 35) {gk0 : Nat} (hg : a.length + rest.length < gk0) {K : Act → World → Prop} {Q : Exit → Act → World → Prop}
  (hM : ∀ a' w', MInv w l pp A0 B0 G0 T0 S0 I0 cmt ex R args buf got tq dq sq dl i p a rest bt r vb a' w' → K a' w')
  (hK : ∀ a' w', Handed (RInv w l pp A0 B0 G0 T0 S0 I0 cmt ex R) gk0 a' w' → Q (.exit 1) a' w') (_hB : ∀ a' w', BInv w l pp A0 B0 G0 T0 S0 I0 R a' w' → Q (.exit 0) a' w') (_hE : ∀ a' w', EInv w ev R a' w' → Q .ret a' w') :
  c.wp Tryd.prog (Exit.then K Q) ⟨us.toArray, []⟩ wi := by
  have hcc : Tryd.f26.body.bind (blkOf 2) = some _ := rfl
  rw [hc] at hcc
  cases hcc
  obtain ⟨i1, hj, hy0, hy1, hy2⟩ := info_parts Tryd.infoByte
  obtain ⟨hl, hxl, hpp, hc0, hc1, hE0, hev, k⟩ := X
  have HK := Lib.hid k
  obtain ⟨fr, s25, s26, s140, he, hal, hgot, hargs, hbuf, hbt, hi0, hi1, hsc, hsw, hp⟩ := H
  obtain ⟨hn, s0, s1, s6, s7, s8, s9, s10, s11, s12, s13, s14, s15, s16, s17, s18, s19, s20, s22, s23, s50⟩ := fr
  dsimp only at s8 s9 s10 s11 s12 s13 s19 s23
  rw [lit_all us hn, s25, s26, s140, s0, s1, s6, s7, s8, s9, s10, s11, s12, s13, s14, s15, s16, s17, s18, s19, s20, s22, s23, s50]
  clear hn s25 s26 s140 s0 s1 s6 s7 s8 s9 s10 s11 s12 s13 s14 s15 s16 s17 s18 s19 s20 s22 s23 s50
  have hri := hsc.i32
  obtain ⟨gk, rfl⟩ : ∃ m, gk0 = m + 1 := ⟨gk0 - 1, by omega⟩
  have hpl : p.length + a.length + rest.length ≤ 100000 := by rw [he] at hl; simp only [List.length_append] at hl; omega
  have hpl2 : p.length + a.length ≤ l.length := by rw [he]; simp only [List.length_append]; omega
  clear hl
  have HP2 := Lib.hid hp
  have HL2 : Hid (l = (p ++ a) ++ rest) := he
  have HSW := Lib.hid hsw
  clear hp he hsw
  have hbw := HP2.out.bw
  have hbk := hbw.block pp hpp
  have k0 : wi.cell? ⟨pp, 0, none⟩ = some (.bool false) := (World.cell?_of_block hbk).trans hc0
  have k1 : wi.cell? ⟨pp, 1, none⟩ = some (.bool cmt) := (World.cell?_of_block hbk).trans hc1
  have HB2 := Lib.hid hbw
  have HEV := Lib.hid hev
  clear hbw hbk hE0 hc0 hc1 hc hev
  have cg : wi.cell? ⟨G0, 0, none⟩ = some (.int .i64 got) := by simp [World.cell?, HP2.out.g]
  have fg : wi.frozen? ⟨G0, 0, none⟩ = false := by simp [World.frozen?, HP2.out.g]
  have lg : G0 < wi.heap.size := (Array.getElem?_eq_some_iff.1 HP2.out.g).1
  have ct : wi.cell? ⟨T0, 0, none⟩ = some (.bool tq) := by simp [World.cell?, HP2.out.t]
  have ft : wi.frozen? ⟨T0, 0, none⟩ = false := by simp [World.frozen?, HP2.out.t]
  have lt : T0 < wi.heap.size := (Array.getElem?_eq_some_iff.1 HP2.out.t).1
  have cs : wi.cell? ⟨S0, 0, none⟩ = some (.bool false) := by simp [World.cell?, HP2.out.z]
  have fs : wi.frozen? ⟨S0, 0, none⟩ = false := by simp [World.frozen?, HP2.out.z]
  have ls : S0 < wi.heap.size := (Array.getElem?_eq_some_iff.1 HP2.out.z).1
  have cb : wi.cell? ⟨B0, 0, none⟩ = some (vb) := by simp [World.cell?, HP2.out.b]
  have fb : wi.frozen? ⟨B0, 0, none⟩ = false := by simp [World.frozen?, HP2.out.b]
  have lb : B0 < wi.heap.size := (Array.getElem?_eq_some_iff.1 HP2.out.b).1
  have HPA := Lib.hid (@List.length_append _ p a)
  have hE4 := enc1_le r
  have HSC := Lib.hid hsc
  clear hsc
  subst hr
  by_cases hc : cmt = true ∧ got = 0 ∧ sq = false ∧ dq = false ∧ bq = false ∧ dl = false
  · obtain ⟨rfl, rfl, rfl, rfl, rfl, rfl⟩ := hc
    have HN : Hid (R = runS true ex ⟨args, buf, 0, tq, false, false, false, false, false, true, false, i + 1⟩ (rns rest)) := by show _ = _; rw [HSW.out]; simp [switchS, Sx.quoted]
    go_wp2
    (try refine hK _ _ ?_)
    refine Handed.intro gk (by omega) ?_
    exact ⟨_, ⟨args, buf, 0, tq, false, false, false, false, false, true, false, i + 1⟩, p ++ a, rest, bt, vb, _, rfl, ⟨⟨rfl, rfl, rfl, rfl, rfl, rfl, rfl, rfl, rfl, rfl, rfl, rfl, rfl, rfl, rfl, rfl, rfl, rfl, rfl, (by show Value.int _ _ = Value.int _ _; first | rfl | go_num), rfl⟩, HL2.out, by (have := HPA.out; first | omega | (simp <;> omega)), by (have := HPA.out; first | omega | (simp <;> omega)), by (have := HPA.out; first | omega | (simp <;> omega)), by (have := HPA.out; first | omega | (simp <;> omega)), by (have := HPA.out; first | omega | (simp <;> omega)), by (have := HPA.out; first | omega | (simp <;> omega)), HN.out, HP2.out⟩, by omega⟩
  · have HN : Hid (R = runS cmt ex (Sx.put ⟨args, buf, got, tq, false, dq, sq, bq, dl, false, false, i + 1⟩ 35) (rns rest)) := by
      show _ = _; rw [HSW.out]
      have : (cmt && got == 0 && !(Sx.quoted ⟨args, buf, got, tq, false, dq, sq, bq, dl, false, false, i + 1⟩)) = false := by cases cmt <;> cases sq <;> cases dq <;> cases bq <;> cases dl <;> simp_all [Sx.quoted]
      simp [switchS, this]
    rcases (show cmt = false ∨ (cmt = true ∧ (got ≠ 0 ∨ (got = 0 ∧ (sq = true ∨ (sq = false ∧ (dq = true ∨ (dq = false ∧ (bq = true ∨ (bq = false ∧ dl = true))))))))) by cases cmt <;> cases sq <;> cases dq <;> cases bq <;> cases dl <;> simp_all <;> omega) with rfl | ⟨rfl, hg0 | ⟨rfl, rfl | ⟨rfl, rfl | ⟨rfl, rfl | ⟨rfl, rfl⟩⟩⟩⟩⟩
    case' inr.inl => have eg0 : ((got : Int) == 0) = false := by simp; omega
    all_goals
      clear hc
      go_wp2
      (try refine hM _ _ ?_)
      exact ⟨_, _, _, _, rfl, ⟨rfl, rfl, rfl, rfl, rfl, rfl, rfl, rfl, rfl, rfl, rfl, rfl, rfl, rfl, rfl, rfl, rfl, rfl, rfl, (by show Value.int _ _ = Value.int _ _; first | rfl | go_num), rfl⟩, rfl, by omega, HN.out, HP2.out⟩


end Go.Proofs.YthekblmkcfkboaaDoor
