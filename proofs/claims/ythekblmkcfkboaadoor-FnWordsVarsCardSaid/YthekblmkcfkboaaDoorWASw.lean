/- Parse, one round: the switch and what follows it. -/
import Derived.Test.YthekblmkcfkboaaDoorWSAny
import Derived.Test.YthekblmkcfkboaaDoorWPut
namespace Go.Proofs.YthekblmkcfkboaaDoor
open Go.RowKit U8
open Go.Lib hiding intOf

set_option maxHeartbeats 12800000 in
set_option maxRecDepth 100000 in
theorem arm_sw {c : Code} (hc : Tryd.f26.body.bind loopOf = some c) {w : World} {l : List UInt8} {pp A0 B0 G0 T0 S0 I0 : Nat} {cmt : Bool} {ex : List Nat} {R : Option (List (List UInt8) × Int)} {ev : Value} (X : Cs w l pp A0 B0 G0 T0 S0 cmt ex ev)
  {us : List Value} {args : List (List UInt8)} {buf : List UInt8} {got : Nat} {tq dq sq bq dl ad : Bool} {i : Int} {p a rest bt : List UInt8} {r : Nat} {vb vk : Value} {wr : World}
  (H : Rd w l pp A0 B0 G0 T0 S0 I0 cmt ex R us ⟨args, buf, got, tq, false, dq, sq, bq, dl, false, ad, i⟩ p (a ++ rest) bt vb vk wr) (ha : a ≠ []) (hd : decodeL (a ++ rest) = (r, a.length)) (hsc : Sc r)
  (h92 : r ≠ 92) (hX : ex.any (· == r) = false) (hS : isSp r = false)
  {gk0 : Nat} (hg : (a ++ rest).length < gk0) {K : Act → World → Prop} {Q : Exit → Act → World → Prop}
  (hK : ∀ a' w', Handed (RInv w l pp A0 B0 G0 T0 S0 I0 cmt ex R) gk0 a' w' → K a' w') (hB : ∀ a' w', BInv w l pp A0 B0 G0 T0 S0 I0 R a' w' → Q (.exit 0) a' w') (hE : ∀ a' w', EInv w ev R a' w' → Q .ret a' w') :
  c.wp Tryd.prog (Exit.then K Q) ⟨us.toArray, []⟩ wr := by
  have X0 := Lib.hid X
  have hcc : Tryd.f26.body.bind loopOf = some _ := rfl
  rw [hc] at hcc
  cases hcc
  obtain ⟨i1, hj, hy0, hy1, hy2⟩ := info_parts Tryd.infoByte
  obtain ⟨hl, hxl, hpp, hc0, hc1, hE0, hev, k⟩ := X
  have HK := Lib.hid k
  obtain ⟨fr, he, hgot, hargs, hbuf, hbt, hi0, hi1, hr, hp⟩ := H
  dsimp only at hgot hargs hbuf hi0 hi1 hp
  obtain ⟨hn, s0, s1, s6, s7, s8, s9, s10, s11, s12, s13, s14, s15, s16, s17, s18, s19, s20, s22, s23, s50⟩ := fr
  dsimp only at s8 s9 s10 s11 s12 s13 s19 s23
  rw [lit_all us hn, s0, s1, s6, s7, s8, s9, s10, s11, s12, s13, s14, s15, s16, s17, s18, s19, s20, s22, s23, s50]
  clear hn s0 s1 s6 s7 s8 s9 s10 s11 s12 s13 s14 s15 s16 s17 s18 s19 s20 s22 s23 s50
  have hal : 0 < a.length := List.length_pos_iff.2 ha
  have hri := hsc.i32
  rw [List.length_append] at hg
  obtain ⟨gk, rfl⟩ : ∃ m, gk0 = m + 1 := ⟨gk0 - 1, by omega⟩
  have hpl : p.length + a.length + rest.length ≤ 100000 := by rw [he] at hl; simp only [List.length_append] at hl; omega
  clear hl
  have hit := hp.it
  have hnx : ∀ ty, (Instr.next (.pointer (some ⟨I0, 0, none⟩)) true ty).run Tryd.prog wr = .ok (.tuple #[.bool true, .int .i64 p.length, .int .i32 r]) (wr.iterAt I0 (txt l) (p ++ a).length) := fun ty => by
    have h := next_part wr I0 p a rest r (by rw [← he]; exact hit) ha hd ty
    rw [← he] at h
    exact h
  have hP2 := hp.next (p ++ a).length
  have HP2 := Lib.hid hP2
  have HL2 : Hid (l = (p ++ a) ++ rest) := by show _ = _; rw [he, List.append_assoc]
  have HRS : Hid (R = match stepS cmt ex ⟨args, buf, got, tq, false, dq, sq, bq, dl, false, ad, i⟩ r with | .err => none | .stop s' => finS s' s'.i | .go s' => runS cmt ex s' (rns rest)) := by
    have h := hr
    rw [rns_cons a rest r ha hd] at h
    exact h
  generalize wr.iterAt I0 (txt l) (p ++ a).length = wi at *
  clear hr hp hit hP2 he
  have hbw := HP2.out.bw
  have hbk := hbw.block pp hpp
  have k0 : wi.cell? ⟨pp, 0, none⟩ = some (.bool false) := (World.cell?_of_block hbk).trans hc0
  have k1 : wi.cell? ⟨pp, 1, none⟩ = some (.bool cmt) := (World.cell?_of_block hbk).trans hc1
  have HE2 : Hid (Ex pp ex wi) := hE0.below hbw
  have HB2 := Lib.hid hbw
  have HEV := Lib.hid hev
  clear hbw hbk hE0 hc0 hc1 hc hev
  have cg : wi.cell? ⟨G0, 0, none⟩ = some (.int .i64 got) := by simp [World.cell?, HP2.out.g]
  have fg : wi.frozen? ⟨G0, 0, none⟩ = false := by simp [World.frozen?, HP2.out.g]
  have lg : G0 < wi.heap.size := (Array.getElem?_eq_some_iff.1 HP2.out.g).1
  have ct : wi.cell? ⟨T0, 0, none⟩ = some (.bool tq) := by simp [World.cell?, HP2.out.t]
  have ft : wi.frozen? ⟨T0, 0, none⟩ = false := by simp [World.frozen?, HP2.out.t]
  have lt : T0 < wi.heap.size := (Array.getElem?_eq_some_iff.1 HP2.out.t).1
  have cs : wi.cell? ⟨S0, 0, none⟩ = some (.bool false) := by simp [World.cell?, HP2.out.z]
  have fs : wi.frozen? ⟨S0, 0, none⟩ = false := by simp [World.frozen?, HP2.out.z]
  have ls : S0 < wi.heap.size := (Array.getElem?_eq_some_iff.1 HP2.out.z).1
  have cb : wi.cell? ⟨B0, 0, none⟩ = some (vb) := by simp [World.cell?, HP2.out.b]
  have fb : wi.frozen? ⟨B0, 0, none⟩ = false := by simp [World.frozen?, HP2.out.b]
  have lb : B0 < wi.heap.size := (Array.getElem?_eq_some_iff.1 HP2.out.b).1
  have HPA := Lib.hid (@List.length_append _ p a)
  have hE4 := enc1_le r
  have HSC := Lib.hid hsc
  clear hsc hd ha
  have e92 : ((r : Int) == 92) = false := by simp; omega
  have CX := Lib.hid (excl_any pp ex r wi (by omega) HE2.out)
  rw [hX] at CX
  have CS := Lib.hid (space_any r wi)
  rw [hS] at CS
  have HSW : Hid (R = match switchS cmt ad ⟨args, buf, got, tq, false, dq, sq, bq, dl, false, false, i + 1⟩ r with | .err => none | .stop s' => finS s' s'.i | .go s' => runS cmt ex s' (rns rest)) := by show _ = _; rw [HRS.out]; simp only [stepS, hX, hS, h92, if_false, Bool.false_eq_true]
  have hg9 : a.length + rest.length < gk + 1 := hg
  clear hX hS h92 HRS
  go_upto_region 50 with fail
  refine CX.out.mono ?_
  rintro e wx ⟨rfl, hwx⟩
  obtain rfl := hwx.symm
  go_upto_region 50 with fail
  refine CS.out.mono ?_
  rintro e wx ⟨rfl, hwx⟩
  obtain rfl := hwx.symm
  go_upto_block 2 with fail
  refine sw_any rfl X0.out (bt := bt) (ad := ad) ⟨⟨rfl, rfl, rfl, rfl, rfl, rfl, rfl, rfl, rfl, rfl, rfl, rfl, rfl, rfl, rfl, rfl, rfl, rfl, rfl, (by show Value.int _ _ = Value.int _ _; first | rfl | go_num), rfl⟩, rfl, rfl, rfl, HL2.out, hal, hgot, hargs, hbuf, hbt, hi0, hi1, HSC.out, HSW.out, HP2.out⟩ hg9 ?_ (fun a' w' h => hK _ _ h) (fun a' w' h => hB _ _ h) (fun a' w' h => hE _ _ h)
  rintro a' w' ⟨us', bq', bt', vk', rfl, fr', s25', hbt', hr', hp'⟩
  go_step
  refine put_any rfl X0.out fr' s25' HL2.out hal hargs hbuf (by omega) hi0 hi1 HSC.out hr' hp' hg9 (fun a' w' h => hK _ _ h)

end Go.Proofs.YthekblmkcfkboaaDoor
