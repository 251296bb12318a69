/- Parse, one round: the switch at separators of commands and at any other rune. -/
import Derived.Test.YthekblmkcfkboaaDoorWSw
namespace Go.Proofs.YthekblmkcfkboaaDoor
open Go.RowKit U8
open Go.Lib hiding intOf

set_option maxHeartbeats 12800000 in
set_option maxRecDepth 100000 in
theorem sw_62 {c : Code} (hc : Tryd.f26.body.bind (blkOf 2) = some c) {w : World} {l : List UInt8} {pp A0 B0 G0 T0 S0 I0 : Nat} {cmt : Bool} {ex : List Nat} {R : Option (List (List UInt8) × Int)} {ev : Value} (X : Cs w l pp A0 B0 G0 T0 S0 cmt ex ev)
  {us : List Value} {args : List (List UInt8)} {buf : List UInt8} {got : Nat} {tq dq sq bq dl ad : Bool} {i : Int} {p a rest bt : List UInt8} {r : Nat} {vb vk : Value} {wi : World}
  (H : Sw w l pp A0 B0 G0 T0 S0 I0 cmt ex R us args buf got tq dq sq bq dl ad i p a rest bt r vb vk wi)
  (hr : r = 62) (hq : sq = false ∧ dq = false ∧ bq = false ∧ dl = false) {gk0 : Nat} (hg : a.length + rest.length < gk0) {K : Act → World → Prop} {Q : Exit → Act → World → Prop}
  (_hM : ∀ a' w', MInv w l pp A0 B0 G0 T0 S0 I0 cmt ex R args buf got tq dq sq dl i p a rest bt r vb a' w' → K a' w')
  (_hK : ∀ a' w', Handed (RInv w l pp A0 B0 G0 T0 S0 I0 cmt ex R) gk0 a' w' → Q (.exit 1) a' w') (hB : ∀ a' w', BInv w l pp A0 B0 G0 T0 S0 I0 R a' w' → Q (.exit 0) a' w') (_hE : ∀ a' w', EInv w ev R a' w' → Q .ret a' w') :
  c.wp Tryd.prog (Exit.then K Q) ⟨us.toArray, []⟩ wi := by
  have hcc : Tryd.f26.body.bind (blkOf 2) = some _ := rfl
  rw [hc] at hcc
  cases hcc
  obtain ⟨i1, hj, hy0, hy1, hy2⟩ := info_parts Tryd.infoByte
  obtain ⟨hl, hxl, hpp, hc0, hc1, hE0, hev, k⟩ := X
  have HK := Lib.hid k
  obtain ⟨fr, s25, s26, s140, he, hal, hgot, hargs, hbuf, hbt, hi0, hi1, hsc, hsw, hp⟩ := H
  obtain ⟨hn, s0, s1, s6, s7, s8, s9, s10, s11, s12, s13, s14, s15, s16, s17, s18, s19, s20, s22, s23, s50⟩ := fr
  dsimp only at s8 s9 s10 s11 s12 s13 s19 s23
  rw [lit_all us hn, s25, s26, s140, s0, s1, s6, s7, s8, s9, s10, s11, s12, s13, s14, s15, s16, s17, s18, s19, s20, s22, s23, s50]
  clear hn s25 s26 s140 s0 s1 s6 s7 s8 s9 s10 s11 s12 s13 s14 s15 s16 s17 s18 s19 s20 s22 s23 s50
  have hri := hsc.i32
  obtain ⟨gk, rfl⟩ : ∃ m, gk0 = m + 1 := ⟨gk0 - 1, by omega⟩
  have hpl : p.length + a.length + rest.length ≤ 100000 := by rw [he] at hl; simp only [List.length_append] at hl; omega
  have hpl2 : p.length + a.length ≤ l.length := by rw [he]; simp only [List.length_append]; omega
  clear hl
  have HP2 := Lib.hid hp
  have HL2 : Hid (l = (p ++ a) ++ rest) := he
  have HSW := Lib.hid hsw
  clear hp he hsw
  have hbw := HP2.out.bw
  have hbk := hbw.block pp hpp
  have k0 : wi.cell? ⟨pp, 0, none⟩ = some (.bool false) := (World.cell?_of_block hbk).trans hc0
  have k1 : wi.cell? ⟨pp, 1, none⟩ = some (.bool cmt) := (World.cell?_of_block hbk).trans hc1
  have HB2 := Lib.hid hbw
  have HEV := Lib.hid hev
  clear hbw hbk hE0 hc0 hc1 hc hev
  have cg : wi.cell? ⟨G0, 0, none⟩ = some (.int .i64 got) := by simp [World.cell?, HP2.out.g]
  have fg : wi.frozen? ⟨G0, 0, none⟩ = false := by simp [World.frozen?, HP2.out.g]
  have lg : G0 < wi.heap.size := (Array.getElem?_eq_some_iff.1 HP2.out.g).1
  have ct : wi.cell? ⟨T0, 0, none⟩ = some (.bool tq) := by simp [World.cell?, HP2.out.t]
  have ft : wi.frozen? ⟨T0, 0, none⟩ = false := by simp [World.frozen?, HP2.out.t]
  have lt : T0 < wi.heap.size := (Array.getElem?_eq_some_iff.1 HP2.out.t).1
  have cs : wi.cell? ⟨S0, 0, none⟩ = some (.bool false) := by simp [World.cell?, HP2.out.z]
  have fs : wi.frozen? ⟨S0, 0, none⟩ = false := by simp [World.frozen?, HP2.out.z]
  have ls : S0 < wi.heap.size := (Array.getElem?_eq_some_iff.1 HP2.out.z).1
  have cb : wi.cell? ⟨B0, 0, none⟩ = some (vb) := by simp [World.cell?, HP2.out.b]
  have fb : wi.frozen? ⟨B0, 0, none⟩ = false := by simp [World.frozen?, HP2.out.b]
  have lb : B0 < wi.heap.size := (Array.getElem?_eq_some_iff.1 HP2.out.b).1
  have HPA := Lib.hid (@List.length_append _ p a)
  have hE4 := enc1_le r
  have HSC := Lib.hid hsc
  clear hsc
  subst hr
  obtain ⟨rfl, rfl, rfl, rfl⟩ := hq
  obtain ⟨gb, capb, rfl, hcapb, -⟩ := owns_cut HP2.out.br HP2.out.nb
  rcases (show buf = [] ∨ (0 < buf.length ∧ (tq = true ∨ tq = false)) by cases buf <;> cases tq <;> simp) with rfl | ⟨hb1, rfl | rfl⟩
  · have HRF : Hid (R = finS ⟨args, [], got, tq, false, false, false, false, false, false, false, i + 1⟩ (i + 1)) := by show _ = _; rw [HSW.out]; simp [switchS, Sx.quoted]
    go_wp2
    (try refine hB _ _ ?_)
    exact ⟨_, ⟨args, [], got, tq, false, false, false, false, false, false, false, i + 1⟩, _, _, _, _, _, rfl, ⟨rfl, rfl, rfl, rfl, rfl, rfl, rfl, rfl, rfl, rfl, rfl, rfl, rfl, rfl, rfl, rfl, rfl, rfl, rfl, (by show Value.int _ _ = Value.int _ _; first | rfl | go_num), rfl⟩, by (dsimp only; first | omega | decide), by (dsimp only; omega), HRF.out, HP2.out⟩
  · have HRF : Hid (R = finS ⟨args, buf, got, true, false, false, false, false, false, false, false, i + 1⟩ (i + 1)) := by show _ = _; rw [HSW.out]; simp [switchS, Sx.quoted]
    go_wp2
    (try refine hB _ _ ?_)
    exact ⟨_, ⟨args, buf, got, true, false, false, false, false, false, false, false, i + 1⟩, _, _, _, _, _, rfl, ⟨rfl, rfl, rfl, rfl, rfl, rfl, rfl, rfl, rfl, rfl, rfl, rfl, rfl, rfl, rfl, rfl, rfl, rfl, rfl, (by show Value.int _ _ = Value.int _ _; first | rfl | go_num), rfl⟩, by (dsimp only; first | omega | decide), by (dsimp only; omega), HRF.out, HP2.out⟩
  have HSW2 : Hid (R = if digs buf then finS ⟨args, buf, 0, false, false, false, false, false, false, false, false, i + 1 - buf.length⟩ (i + 1 - buf.length) else finS ⟨args, buf, got, false, false, false, false, false, false, false, false, i + 1⟩ (i + 1)) := by
    have hbn : buf ≠ [] := List.length_pos_iff.1 hb1
    show _ = _; rw [HSW.out]
    cases hd9 : digs buf <;> simp [switchS, Sx.quoted, hbn, hd9]
  go_upto_block 3 with fail
  go_wp2_with fail
  go_loopg [27, 29, 265] (buf.length + 1) (fun gk v27 v29 v265 wr => ∃ k : Nat, v27 = .bool true ∧ v265 = .int .i64 k ∧ k ≤ buf.length ∧ buf.length - k < gk ∧ Hid (digs buf = digs (buf.drop k)) ∧ wr = wi)
  case atStart => exact ⟨0, rfl, rfl, by omega, by omega, rfl, rfl⟩
  case round =>
    obtain ⟨k, rfl, rfl, hk, hgk, HD, hwr⟩ := hrel
    obtain rfl := hwr.symm
    by_cases hlt : k < buf.length
    · obtain ⟨gk2, rfl⟩ : ∃ m, gk = m + 1 := ⟨gk - 1, by omega⟩
      have hx := List.getElem?_eq_getElem hlt
      have hdr := List.drop_eq_getElem_cons hlt
      generalize buf[k] = b at hx hdr
      have hcell : wi.cell? ⟨gb, k, none⟩ = some (.int .u8 b.toNat) := own_cell HP2.out.br hx
      have hb8 := b.toNat_lt
      have HD2 : Hid (digs buf = (decide (48 ≤ b.toNat ∧ b.toNat ≤ 57) && digs (buf.drop (k + 1)))) := by show _ = _; rw [HD.out, hdr]; rfl
      clear hx hdr HD
      by_cases hbl : (b.toNat : Int) < 48
      · have HF9 : Hid (digs buf = false) := by show _ = _; rw [HD2.out]; simp; omega
        clear HD2
        have HRF : Hid (R = finS ⟨args, buf, got, false, false, false, false, false, false, false, false, i + 1⟩ (i + 1)) := by show _ = _; rw [HSW2.out, HF9.out]; rfl
        go_wp2
        (try refine hB _ _ ?_)
        exact ⟨_, ⟨args, buf, got, false, false, false, false, false, false, false, false, i + 1⟩, _, _, _, _, _, rfl, ⟨rfl, rfl, rfl, rfl, rfl, rfl, rfl, rfl, rfl, rfl, rfl, rfl, rfl, rfl, rfl, rfl, rfl, rfl, rfl, (by show Value.int _ _ = Value.int _ _; first | rfl | go_num), rfl⟩, by (dsimp only; first | omega | decide), by (dsimp only; omega), HRF.out, HP2.out⟩
      by_cases hbg : (57 : Int) < b.toNat
      · have HF9 : Hid (digs buf = false) := by show _ = _; rw [HD2.out]; simp; omega
        clear HD2
        have HRF : Hid (R = finS ⟨args, buf, got, false, false, false, false, false, false, false, false, i + 1⟩ (i + 1)) := by show _ = _; rw [HSW2.out, HF9.out]; rfl
        go_wp2
        (try refine hB _ _ ?_)
        exact ⟨_, ⟨args, buf, got, false, false, false, false, false, false, false, false, i + 1⟩, _, _, _, _, _, rfl, ⟨rfl, rfl, rfl, rfl, rfl, rfl, rfl, rfl, rfl, rfl, rfl, rfl, rfl, rfl, rfl, rfl, rfl, rfl, rfl, (by show Value.int _ _ = Value.int _ _; first | rfl | go_num), rfl⟩, by (dsimp only; first | omega | decide), by (dsimp only; omega), HRF.out, HP2.out⟩
      have HF9 : Hid (digs buf = digs (buf.drop (k + 1))) := by
        show _ = _; rw [HD2.out]
        rw [show decide (48 ≤ b.toNat ∧ b.toNat ≤ 57) = true by simp; omega]; rfl
      clear HD2
      go_wp2
      go_roundg gk2
      case rel => exact ⟨k + 1, rfl, by go_num, by omega, by omega, HF9.out, rfl⟩
      case measure => omega
    · have HF9 : Hid (digs buf = true) := by show _ = _; rw [HD.out, List.drop_eq_nil_of_le (by omega)]; rfl
      clear HD
      have HRF : Hid (R = finS ⟨args, buf, 0, false, false, false, false, false, false, false, false, i + 1 - buf.length⟩ (i + 1 - buf.length)) := by show _ = _; rw [HSW2.out, HF9.out]; rfl
      go_upto_region 103 with fail
      have HG := Lib.hid (HP2.out.setG HK.out 0)
      clear cg fg lg ct ft lt cs fs ls cb fb lb
      generalize wi.setCell ⟨G0, 0, none⟩ (.int .i64 0) = wg at *
      go_wp2
      (try refine hB _ _ ?_)
      exact ⟨_, ⟨args, buf, 0, false, false, false, false, false, false, false, false, i + 1 - buf.length⟩, _, _, _, _, _, rfl, ⟨rfl, rfl, rfl, rfl, rfl, rfl, rfl, rfl, rfl, rfl, rfl, rfl, rfl, rfl, rfl, rfl, rfl, rfl, rfl, (by show Value.int _ _ = Value.int _ _; first | rfl | go_num), rfl⟩, by (dsimp only; first | omega | decide), by (dsimp only; omega), HRF.out, HG.out⟩


set_option maxHeartbeats 12800000 in
set_option maxRecDepth 100000 in
theorem sw_sep {c : Code} (hc : Tryd.f26.body.bind (blkOf 2) = some c) {w : World} {l : List UInt8} {pp A0 B0 G0 T0 S0 I0 : Nat} {cmt : Bool} {ex : List Nat} {R : Option (List (List UInt8) × Int)} {ev : Value} (X : Cs w l pp A0 B0 G0 T0 S0 cmt ex ev)
  {us : List Value} {args : List (List UInt8)} {buf : List UInt8} {got : Nat} {tq dq sq bq dl ad : Bool} {i : Int} {p a rest bt : List UInt8} {r : Nat} {vb vk : Value} {wi : World}
  (H : Sw w l pp A0 B0 G0 T0 S0 I0 cmt ex R us args buf got tq dq sq bq dl ad i p a rest bt r vb vk wi)
  (hr : r = 59 ∨ r = 38 ∨ r = 124 ∨ r = 60) (hq : sq = false ∧ dq = false ∧ bq = false ∧ dl = false) {gk0 : Nat} (hg : a.length + rest.length < gk0) {K : Act → World → Prop} {Q : Exit → Act → World → Prop}
  (_hM : ∀ a' w', MInv w l pp A0 B0 G0 T0 S0 I0 cmt ex R args buf got tq dq sq dl i p a rest bt r vb a' w' → K a' w')
  (_hK : ∀ a' w', Handed (RInv w l pp A0 B0 G0 T0 S0 I0 cmt ex R) gk0 a' w' → Q (.exit 1) a' w') (hB : ∀ a' w', BInv w l pp A0 B0 G0 T0 S0 I0 R a' w' → Q (.exit 0) a' w') (_hE : ∀ a' w', EInv w ev R a' w' → Q .ret a' w') :
  c.wp Tryd.prog (Exit.then K Q) ⟨us.toArray, []⟩ wi := by
  have hcc : Tryd.f26.body.bind (blkOf 2) = some _ := rfl
  rw [hc] at hcc
  cases hcc
  obtain ⟨i1, hj, hy0, hy1, hy2⟩ := info_parts Tryd.infoByte
  obtain ⟨hl, hxl, hpp, hc0, hc1, hE0, hev, k⟩ := X
  have HK := Lib.hid k
  obtain ⟨fr, s25, s26, s140, he, hal, hgot, hargs, hbuf, hbt, hi0, hi1, hsc, hsw, hp⟩ := H
  obtain ⟨hn, s0, s1, s6, s7, s8, s9, s10, s11, s12, s13, s14, s15, s16, s17, s18, s19, s20, s22, s23, s50⟩ := fr
  dsimp only at s8 s9 s10 s11 s12 s13 s19 s23
  rw [lit_all us hn, s25, s26, s140, s0, s1, s6, s7, s8, s9, s10, s11, s12, s13, s14, s15, s16, s17, s18, s19, s20, s22, s23, s50]
  clear hn s25 s26 s140 s0 s1 s6 s7 s8 s9 s10 s11 s12 s13 s14 s15 s16 s17 s18 s19 s20 s22 s23 s50
  have hri := hsc.i32
  obtain ⟨gk, rfl⟩ : ∃ m, gk0 = m + 1 := ⟨gk0 - 1, by omega⟩
  have hpl : p.length + a.length + rest.length ≤ 100000 := by rw [he] at hl; simp only [List.length_append] at hl; omega
  have hpl2 : p.length + a.length ≤ l.length := by rw [he]; simp only [List.length_append]; omega
  clear hl
  have HP2 := Lib.hid hp
  have HL2 : Hid (l = (p ++ a) ++ rest) := he
  have HSW := Lib.hid hsw
  clear hp he hsw
  have hbw := HP2.out.bw
  have hbk := hbw.block pp hpp
  have k0 : wi.cell? ⟨pp, 0, none⟩ = some (.bool false) := (World.cell?_of_block hbk).trans hc0
  have k1 : wi.cell? ⟨pp, 1, none⟩ = some (.bool cmt) := (World.cell?_of_block hbk).trans hc1
  have HB2 := Lib.hid hbw
  have HEV := Lib.hid hev
  clear hbw hbk hE0 hc0 hc1 hc hev
  have cg : wi.cell? ⟨G0, 0, none⟩ = some (.int .i64 got) := by simp [World.cell?, HP2.out.g]
  have fg : wi.frozen? ⟨G0, 0, none⟩ = false := by simp [World.frozen?, HP2.out.g]
  have lg : G0 < wi.heap.size := (Array.getElem?_eq_some_iff.1 HP2.out.g).1
  have ct : wi.cell? ⟨T0, 0, none⟩ = some (.bool tq) := by simp [World.cell?, HP2.out.t]
  have ft : wi.frozen? ⟨T0, 0, none⟩ = false := by simp [World.frozen?, HP2.out.t]
  have lt : T0 < wi.heap.size := (Array.getElem?_eq_some_iff.1 HP2.out.t).1
  have cs : wi.cell? ⟨S0, 0, none⟩ = some (.bool false) := by simp [World.cell?, HP2.out.z]
  have fs : wi.frozen? ⟨S0, 0, none⟩ = false := by simp [World.frozen?, HP2.out.z]
  have ls : S0 < wi.heap.size := (Array.getElem?_eq_some_iff.1 HP2.out.z).1
  have cb : wi.cell? ⟨B0, 0, none⟩ = some (vb) := by simp [World.cell?, HP2.out.b]
  have fb : wi.frozen? ⟨B0, 0, none⟩ = false := by simp [World.frozen?, HP2.out.b]
  have lb : B0 < wi.heap.size := (Array.getElem?_eq_some_iff.1 HP2.out.b).1
  have HPA := Lib.hid (@List.length_append _ p a)
  have hE4 := enc1_le r
  have HSC := Lib.hid hsc
  clear hsc
  obtain ⟨rfl, rfl, rfl, rfl⟩ := hq
  rcases hr with rfl | rfl | rfl | rfl
  all_goals
    have HRF : Hid (R = finS ⟨args, buf, got, tq, false, false, false, false, false, false, false, i + 1⟩ (i + 1)) := by show _ = _; rw [HSW.out]; simp [switchS, Sx.quoted]
    go_wp2
    (try refine hB _ _ ?_)
    exact ⟨_, ⟨args, buf, got, tq, false, false, false, false, false, false, false, i + 1⟩, _, _, _, _, _, rfl, ⟨rfl, rfl, rfl, rfl, rfl, rfl, rfl, rfl, rfl, rfl, rfl, rfl, rfl, rfl, rfl, rfl, rfl, rfl, rfl, (by show Value.int _ _ = Value.int _ _; first | rfl | go_num), rfl⟩, by (dsimp only; first | omega | decide), by (dsimp only; omega), HRF.out, HP2.out⟩


set_option maxHeartbeats 12800000 in
set_option maxRecDepth 100000 in
theorem sw_sepq {c : Code} (hc : Tryd.f26.body.bind (blkOf 2) = some c) {w : World} {l : List UInt8} {pp A0 B0 G0 T0 S0 I0 : Nat} {cmt : Bool} {ex : List Nat} {R : Option (List (List UInt8) × Int)} {ev : Value} (X : Cs w l pp A0 B0 G0 T0 S0 cmt ex ev)
  {us : List Value} {args : List (List UInt8)} {buf : List UInt8} {got : Nat} {tq dq sq bq dl ad : Bool} {i : Int} {p a rest bt : List UInt8} {r : Nat} {vb vk : Value} {wi : World}
  (H : Sw w l pp A0 B0 G0 T0 S0 I0 cmt ex R us args buf got tq dq sq bq dl ad i p a rest bt r vb vk wi)
  (hr : r = 59 ∨ r = 38 ∨ r = 124 ∨ r = 60 ∨ r = 62) (hq : ((sq || dq) || bq) || dl) {gk0 : Nat} (hg : a.length + rest.length < gk0) {K : Act → World → Prop} {Q : Exit → Act → World → Prop}
  (hM : ∀ a' w', MInv w l pp A0 B0 G0 T0 S0 I0 cmt ex R args buf got tq dq sq dl i p a rest bt r vb a' w' → K a' w')
  (_hK : ∀ a' w', Handed (RInv w l pp A0 B0 G0 T0 S0 I0 cmt ex R) gk0 a' w' → Q (.exit 1) a' w') (_hB : ∀ a' w', BInv w l pp A0 B0 G0 T0 S0 I0 R a' w' → Q (.exit 0) a' w') (_hE : ∀ a' w', EInv w ev R a' w' → Q .ret a' w') :
  c.wp Tryd.prog (Exit.then K Q) ⟨us.toArray, []⟩ wi := by
  have hcc : Tryd.f26.body.bind (blkOf 2) = some _ := rfl
  rw [hc] at hcc
  cases hcc
  obtain ⟨i1, hj, hy0, hy1, hy2⟩ := info_parts Tryd.infoByte
  obtain ⟨hl, hxl, hpp, hc0, hc1, hE0, hev, k⟩ := X
  have HK := Lib.hid k
  obtain ⟨fr, s25, s26, s140, he, hal, hgot, hargs, hbuf, hbt, hi0, hi1, hsc, hsw, hp⟩ := H
  obtain ⟨hn, s0, s1, s6, s7, s8, s9, s10, s11, s12, s13, s14, s15, s16, s17, s18, s19, s20, s22, s23, s50⟩ := fr
  dsimp only at s8 s9 s10 s11 s12 s13 s19 s23
  rw [lit_all us hn, s25, s26, s140, s0, s1, s6, s7, s8, s9, s10, s11, s12, s13, s14, s15, s16, s17, s18, s19, s20, s22, s23, s50]
  clear hn s25 s26 s140 s0 s1 s6 s7 s8 s9 s10 s11 s12 s13 s14 s15 s16 s17 s18 s19 s20 s22 s23 s50
  have hri := hsc.i32
  obtain ⟨gk, rfl⟩ : ∃ m, gk0 = m + 1 := ⟨gk0 - 1, by omega⟩
  have hpl : p.length + a.length + rest.length ≤ 100000 := by rw [he] at hl; simp only [List.length_append] at hl; omega
  have hpl2 : p.length + a.length ≤ l.length := by rw [he]; simp only [List.length_append]; omega
  clear hl
  have HP2 := Lib.hid hp
  have HL2 : Hid (l = (p ++ a) ++ rest) := he
  have HSW := Lib.hid hsw
  clear hp he hsw
  have hbw := HP2.out.bw
  have hbk := hbw.block pp hpp
  have k0 : wi.cell? ⟨pp, 0, none⟩ = some (.bool false) := (World.cell?_of_block hbk).trans hc0
  have k1 : wi.cell? ⟨pp, 1, none⟩ = some (.bool cmt) := (World.cell?_of_block hbk).trans hc1
  have HB2 := Lib.hid hbw
  have HEV := Lib.hid hev
  clear hbw hbk hE0 hc0 hc1 hc hev
  have cg : wi.cell? ⟨G0, 0, none⟩ = some (.int .i64 got) := by simp [World.cell?, HP2.out.g]
  have fg : wi.frozen? ⟨G0, 0, none⟩ = false := by simp [World.frozen?, HP2.out.g]
  have lg : G0 < wi.heap.size := (Array.getElem?_eq_some_iff.1 HP2.out.g).1
  have ct : wi.cell? ⟨T0, 0, none⟩ = some (.bool tq) := by simp [World.cell?, HP2.out.t]
  have ft : wi.frozen? ⟨T0, 0, none⟩ = false := by simp [World.frozen?, HP2.out.t]
  have lt : T0 < wi.heap.size := (Array.getElem?_eq_some_iff.1 HP2.out.t).1
  have cs : wi.cell? ⟨S0, 0, none⟩ = some (.bool false) := by simp [World.cell?, HP2.out.z]
  have fs : wi.frozen? ⟨S0, 0, none⟩ = false := by simp [World.frozen?, HP2.out.z]
  have ls : S0 < wi.heap.size := (Array.getElem?_eq_some_iff.1 HP2.out.z).1
  have cb : wi.cell? ⟨B0, 0, none⟩ = some (vb) := by simp [World.cell?, HP2.out.b]
  have fb : wi.frozen? ⟨B0, 0, none⟩ = false := by simp [World.frozen?, HP2.out.b]
  have lb : B0 < wi.heap.size := (Array.getElem?_eq_some_iff.1 HP2.out.b).1
  have HPA := Lib.hid (@List.length_append _ p a)
  have hE4 := enc1_le r
  have HSC := Lib.hid hsc
  clear hsc
  have HN : Hid (R = runS cmt ex (Sx.put ⟨args, buf, got, tq, false, dq, sq, bq, dl, false, false, i + 1⟩ r) (rns rest)) := by show _ = _; rw [HSW.out]; rcases hr with rfl | rfl | rfl | rfl | rfl <;> simp [switchS, Sx.quoted, hq]
  have hq2 : sq = true ∨ (sq = false ∧ (dq = true ∨ (dq = false ∧ (bq = true ∨ (bq = false ∧ dl = true))))) := by cases sq <;> cases dq <;> cases bq <;> cases dl <;> simp_all
  clear hq
  rcases hr with rfl | rfl | rfl | rfl | rfl
  all_goals
    rcases hq2 with rfl | ⟨rfl, rfl | ⟨rfl, rfl | ⟨rfl, rfl⟩⟩⟩
    all_goals
      go_wp2
      (try refine hM _ _ ?_)
      exact ⟨_, _, _, _, rfl, ⟨rfl, rfl, rfl, rfl, rfl, rfl, rfl, rfl, rfl, rfl, rfl, rfl, rfl, rfl, rfl, rfl, rfl, rfl, rfl, (by show Value.int _ _ = Value.int _ _; first | rfl | go_num), rfl⟩, rfl, by omega, HN.out, HP2.out⟩


set_option maxHeartbeats 12800000 in
set_option maxRecDepth 100000 in
theorem sw_def {c : Code} (hc : Tryd.f26.body.bind (blkOf 2) = some c) {w : World} {l : List UInt8} {pp A0 B0 G0 T0 S0 I0 : Nat} {cmt : Bool} {ex : List Nat} {R : Option (List (List UInt8) × Int)} {ev : Value} (X : Cs w l pp A0 B0 G0 T0 S0 cmt ex ev)
  {us : List Value} {args : List (List UInt8)} {buf : List UInt8} {got : Nat} {tq dq sq bq dl ad : Bool} {i : Int} {p a rest bt : List UInt8} {r : Nat} {vb vk : Value} {wi : World}
  (H : Sw w l pp A0 B0 G0 T0 S0 I0 cmt ex R us args buf got tq dq sq bq dl ad i p a rest bt r vb vk wi)
  (h96 : r ≠ 96) (h41 : r ≠ 41) (h40 : r ≠ 40) (h34 : r ≠ 34) (h39 : r ≠ 39) (h59 : r ≠ 59) (h38 : r ≠ 38) (h124 : r ≠ 124) (h60 : r ≠ 60) (h62 : r ≠ 62) (h36 : r ≠ 36) (h35 : r ≠ 35) {gk0 : Nat} (hg : a.length + rest.length < gk0) {K : Act → World → Prop} {Q : Exit → Act → World → Prop}
  (hM : ∀ a' w', MInv w l pp A0 B0 G0 T0 S0 I0 cmt ex R args buf got tq dq sq dl i p a rest bt r vb a' w' → K a' w')
  (_hK : ∀ a' w', Handed (RInv w l pp A0 B0 G0 T0 S0 I0 cmt ex R) gk0 a' w' → Q (.exit 1) a' w') (_hB : ∀ a' w', BInv w l pp A0 B0 G0 T0 S0 I0 R a' w' → Q (.exit 0) a' w') (_hE : ∀ a' w', EInv w ev R a' w' → Q .ret a' w') :
  c.wp Tryd.prog (Exit.then K Q) ⟨us.toArray, []⟩ wi := by
  have hcc : Tryd.f26.body.bind (blkOf 2) = some _ := rfl
  rw [hc] at hcc
  cases hcc
  obtain ⟨i1, hj, hy0, hy1, hy2⟩ := info_parts Tryd.infoByte
  obtain ⟨hl, hxl, hpp, hc0, hc1, hE0, hev, k⟩ := X
  have HK := Lib.hid k
  obtain ⟨fr, s25, s26, s140, he, hal, hgot, hargs, hbuf, hbt, hi0, hi1, hsc, hsw, hp⟩ := H
  obtain ⟨hn, s0, s1, s6, s7, s8, s9, s10, s11, s12, s13, s14, s15, s16, s17, s18, s19, s20, s22, s23, s50⟩ := fr
  dsimp only at s8 s9 s10 s11 s12 s13 s19 s23
  rw [lit_all us hn, s25, s26, s140, s0, s1, s6, s7, s8, s9, s10, s11, s12, s13, s14, s15, s16, s17, s18, s19, s20, s22, s23, s50]
  clear hn s25 s26 s140 s0 s1 s6 s7 s8 s9 s10 s11 s12 s13 s14 s15 s16 s17 s18 s19 s20 s22 s23 s50
  have hri := hsc.i32
  obtain ⟨gk, rfl⟩ : ∃ m, gk0 = m + 1 := ⟨gk0 - 1, by omega⟩
  have hpl : p.length + a.length + rest.length ≤ 100000 := by rw [he] at hl; simp only [List.length_append] at hl; omega
  have hpl2 : p.length + a.length ≤ l.length := by rw [he]; simp only [List.length_append]; omega
  clear hl
  have HP2 := Lib.hid hp
  have HL2 : Hid (l = (p ++ a) ++ rest) := he
  have HSW := Lib.hid hsw
  clear hp he hsw
  have hbw := HP2.out.bw
  have hbk := hbw.block pp hpp
  have k0 : wi.cell? ⟨pp, 0, none⟩ = some (.bool false) := (World.cell?_of_block hbk).trans hc0
  have k1 : wi.cell? ⟨pp, 1, none⟩ = some (.bool cmt) := (World.cell?_of_block hbk).trans hc1
  have HB2 := Lib.hid hbw
  have HEV := Lib.hid hev
  clear hbw hbk hE0 hc0 hc1 hc hev
  have cg : wi.cell? ⟨G0, 0, none⟩ = some (.int .i64 got) := by simp [World.cell?, HP2.out.g]
  have fg : wi.frozen? ⟨G0, 0, none⟩ = false := by simp [World.frozen?, HP2.out.g]
  have lg : G0 < wi.heap.size := (Array.getElem?_eq_some_iff.1 HP2.out.g).1
  have ct : wi.cell? ⟨T0, 0, none⟩ = some (.bool tq) := by simp [World.cell?, HP2.out.t]
  have ft : wi.frozen? ⟨T0, 0, none⟩ = false := by simp [World.frozen?, HP2.out.t]
  have lt : T0 < wi.heap.size := (Array.getElem?_eq_some_iff.1 HP2.out.t).1
  have cs : wi.cell? ⟨S0, 0, none⟩ = some (.bool false) := by simp [World.cell?, HP2.out.z]
  have fs : wi.frozen? ⟨S0, 0, none⟩ = false := by simp [World.frozen?, HP2.out.z]
  have ls : S0 < wi.heap.size := (Array.getElem?_eq_some_iff.1 HP2.out.z).1
  have cb : wi.cell? ⟨B0, 0, none⟩ = some (vb) := by simp [World.cell?, HP2.out.b]
  have fb : wi.frozen? ⟨B0, 0, none⟩ = false := by simp [World.frozen?, HP2.out.b]
  have lb : B0 < wi.heap.size := (Array.getElem?_eq_some_iff.1 HP2.out.b).1
  have HPA := Lib.hid (@List.length_append _ p a)
  have hE4 := enc1_le r
  have HSC := Lib.hid hsc
  clear hsc
  have HN : Hid (R = runS cmt ex (Sx.put ⟨args, buf, got, tq, false, dq, sq, bq, dl, false, false, i + 1⟩ r) (rns rest)) := by show _ = _; rw [HSW.out]; simp [switchS, h96, h41, h40, h34, h39, h59, h38, h124, h60, h62, h35]
  have e96 : ((r : Int) == 96) = false := by simp; omega
  have e41 : ((r : Int) == 41) = false := by simp; omega
  have e40 : ((r : Int) == 40) = false := by simp; omega
  have e34 : ((r : Int) == 34) = false := by simp; omega
  have e39 : ((r : Int) == 39) = false := by simp; omega
  have e59 : ((r : Int) == 59) = false := by simp; omega
  have e38 : ((r : Int) == 38) = false := by simp; omega
  have e124 : ((r : Int) == 124) = false := by simp; omega
  have e60 : ((r : Int) == 60) = false := by simp; omega
  have e62 : ((r : Int) == 62) = false := by simp; omega
  have e36 : ((r : Int) == 36) = false := by simp; omega
  have e35 : ((r : Int) == 35) = false := by simp; omega
  clear h96 h41 h40 h34 h39 h59 h38 h124 h60 h62 h36 h35
  go_wp2
  (try refine hM _ _ ?_)
  exact ⟨_, _, _, _, rfl, ⟨rfl, rfl, rfl, rfl, rfl, rfl, rfl, rfl, rfl, rfl, rfl, rfl, rfl, rfl, rfl, rfl, rfl, rfl, rfl, (by show Value.int _ _ = Value.int _ _; first | rfl | go_num), rfl⟩, rfl, by omega, HN.out, HP2.out⟩


end Go.Proofs.YthekblmkcfkboaaDoor
