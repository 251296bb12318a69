/- Parse, one round: the end of the line. -/
import Derived.Test.YthekblmkcfkboaaDoorWFrame
namespace Go.Proofs.YthekblmkcfkboaaDoor
open Go.RowKit U8
open Go.Lib hiding intOf

set_option maxHeartbeats 12800000 in
set_option maxRecDepth 100000 in
theorem arm_nil {c : Code} (hc : Tryd.f26.body.bind loopOf = some c) {w : World} {l : List UInt8} {pp A0 B0 G0 T0 S0 I0 : Nat} {cmt : Bool} {ex : List Nat} {R : Option (List (List UInt8) × Int)} {ev : Value} (X : Cs w l pp A0 B0 G0 T0 S0 cmt ex ev)
  {us : List Value} {args : List (List UInt8)} {buf : List UInt8} {got : Nat} {tq esc dq sq bq dl cm ad : Bool} {i : Int} {p bt : List UInt8} {vb vk : Value} {wr : World}
  (H : Rd w l pp A0 B0 G0 T0 S0 I0 cmt ex R us ⟨args, buf, got, tq, esc, dq, sq, bq, dl, cm, ad, i⟩ p [] bt vb vk wr)
  {K : Act → World → Prop} {Q : Exit → Act → World → Prop} (hB : ∀ a' w', BInv w l pp A0 B0 G0 T0 S0 I0 R a' w' → Q (.exit 0) a' w') :
  c.wp Tryd.prog (Exit.then K Q) ⟨us.toArray, []⟩ wr := by
  have hcc : Tryd.f26.body.bind loopOf = some _ := rfl
  rw [hc] at hcc
  cases hcc
  obtain ⟨i1, hj, hy0, hy1, hy2⟩ := info_parts Tryd.infoByte
  obtain ⟨hl, hxl, hpp, hc0, hc1, hE0, hev, k⟩ := X
  have HK := Lib.hid k
  obtain ⟨fr, he, hgot, hargs, hbuf, hbt, hi0, hi1, hr, hp⟩ := H
  dsimp only at hgot hargs hbuf hi0 hi1 hp
  obtain ⟨hn, s0, s1, s6, s7, s8, s9, s10, s11, s12, s13, s14, s15, s16, s17, s18, s19, s20, s22, s23, s50⟩ := fr
  dsimp only at s8 s9 s10 s11 s12 s13 s19 s23
  rw [lit_all us hn, s0, s1, s6, s7, s8, s9, s10, s11, s12, s13, s14, s15, s16, s17, s18, s19, s20, s22, s23, s50]
  clear hn s0 s1 s6 s7 s8 s9 s10 s11 s12 s13 s14 s15 s16 s17 s18 s19 s20 s22 s23 s50
  have hpl2 : p.length ≤ l.length := by rw [he]; simp
  have hit := hp.it
  have hps : ¬ p.length < (txt l).size := by rw [he, List.append_nil, txt_size]; omega
  have hnx := fun ty => @run_next_end_at Tryd.prog wr I0 _ _ ty hit hps
  have HRF : Hid (R = finS ⟨args, buf, got, tq, esc, dq, sq, bq, dl, cm, ad, i⟩ (-1)) := hr
  have HP2 := Lib.hid hp
  clear hr hp hps he hE0 hc0 hc1 hc hev
  go_wp2
  (try refine hB _ _ ?_)
  exact ⟨_, ⟨args, buf, got, tq, esc, dq, sq, bq, dl, cm, ad, i⟩, _, _, _, _, _, rfl, ⟨rfl, rfl, rfl, rfl, rfl, rfl, rfl, rfl, rfl, rfl, rfl, rfl, rfl, rfl, rfl, rfl, rfl, rfl, rfl, (by show Value.int _ _ = Value.int _ _; first | rfl | go_num), rfl⟩, by (dsimp only; first | omega | decide), by (dsimp only; omega), HRF.out, HP2.out⟩

end Go.Proofs.YthekblmkcfkboaaDoor
