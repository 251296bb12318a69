/- Parse with variables: a round. Parse with variables: a variable. -/
import Derived.Test.YthekblmkcfkboaaDoorVB
namespace Go.Proofs.YthekblmkcfkboaaDoor
open Go.RowKit U8
open Go.Lib hiding intOf

set_option maxHeartbeats 12800000 in
set_option maxRecDepth 100000 in
theorem v_skip {c : Code} (hc : Tryd.f26.body.bind loopOf = some c) {w : World} {l : List UInt8} {pp bx ob ocap A0 B0 G0 T0 S0 I0 : Nat} {nm val : List UInt8} {A : List (List UInt8)} (X : Cv w l pp bx ob ocap A0 B0 G0 T0 S0 nm val)
  {us : List Value} {args : List (List UInt8)} {buf : List UInt8} {got m : Nat} {tq sb sq ad : Bool} {i sk : Int} {p rest : List UInt8} {b : UInt8} {vb : Value} {wr : World}
  (H : Rv w l pp bx A0 B0 G0 T0 S0 I0 us args buf got tq sb sq ad i sk (m + 1) p (b :: rest) vb wr) (h7 : b.toNat < 128)
  (hRn : Rn nm val args buf got sq m rest A) {gk0 : Nat} (hg : rest.length + 1 < gk0) {K : Act → World → Prop} {Q : Exit → Act → World → Prop}
  (hK : ∀ a' w', Handed (RIv w l pp bx A0 B0 G0 T0 S0 I0 nm val A) gk0 a' w' → K a' w') :
  c.wp Tryd.prog (Exit.then K Q) ⟨us.toArray, []⟩ wr := by
  have hcc : Tryd.f26.body.bind loopOf = some _ := rfl
  rw [hc] at hcc
  cases hcc
  obtain ⟨i1, hj, hy0, hy1, hy2⟩ := info_parts Tryd.infoByte
  obtain ⟨hl, hv, hpp, hc0, hE0, k, hoc, ho0, ho1, hnt, hve, hvb, hns, hne⟩ := X
  have HK := Lib.hid k
  obtain ⟨fr, he, hgot, hargs, hbuf, hi0, hi1, hs0, hs1, hp⟩ := H
  obtain ⟨hn, s0, s1, s6, s7, s8, s9, s10, s11, s12, s13, s14, s15, s16, s17, s18, s19, s20, s21, s22, s23, s50⟩ := fr
  rw [lit_all us hn, s0, s1, s6, s7, s8, s9, s10, s11, s12, s13, s14, s15, s16, s17, s18, s19, s20, s21, s22, s23, s50]
  clear hn s0 s1 s6 s7 s8 s9 s10 s11 s12 s13 s14 s15 s16 s17 s18 s19 s20 s21 s22 s23 s50
  obtain ⟨gk, rfl⟩ : ∃ m, gk0 = m + 1 := ⟨gk0 - 1, by omega⟩
  have hpl : p.length + 1 + rest.length ≤ 1000 := by rw [he] at hl; simp only [List.length_append, List.length_cons] at hl; omega
  clear hl
  have hit := hp.it
  have hnx : ∀ ty, (Instr.next (.pointer (some ⟨I0, 0, none⟩)) true ty).run Tryd.prog wr = .ok (.tuple #[.bool true, .int .i64 p.length, .int .i32 b.toNat]) (wr.iterAt I0 (txt l) (p ++ [b]).length) := fun ty => by
    have h := next_part wr I0 p [b] rest (b).toNat (by rw [show p ++ ([b] ++ rest) = l from he.symm]; exact hit) (by simp) (decode7 _ _ h7) ty
    rw [show p ++ ([b] ++ rest) = l from he.symm] at h
    exact h
  have hP2 := hp.next (p ++ [b]).length
  have HP2 := Lib.hid hP2
  have HL2 : Hid (l = (p ++ [b]) ++ rest) := by show _ = _; rw [he, List.append_assoc]; rfl
  generalize wr.iterAt I0 (txt l) (p ++ [b]).length = wi at *
  clear hp hit hP2 he
  have hbw := HP2.out.bw
  have hbk := hbw.block pp hpp
  have k0 : wi.cell? ⟨pp, 0, none⟩ = some (.bool true) := (World.cell?_of_block hbk).trans hc0
  have HE2 : Hid (Ex pp [] wi) := hE0.below hbw
  have HB2 := Lib.hid hbw
  clear hbw hbk hE0 hc0 hc
  have cg : wi.cell? ⟨G0, 0, none⟩ = some (.int .i64 got) := by simp [World.cell?, HP2.out.g]
  have fg : wi.frozen? ⟨G0, 0, none⟩ = false := by simp [World.frozen?, HP2.out.g]
  have lg : G0 < wi.heap.size := (Array.getElem?_eq_some_iff.1 HP2.out.g).1
  have ct : wi.cell? ⟨T0, 0, none⟩ = some (.bool tq) := by simp [World.cell?, HP2.out.t]
  have ft : wi.frozen? ⟨T0, 0, none⟩ = false := by simp [World.frozen?, HP2.out.t]
  have lt : T0 < wi.heap.size := (Array.getElem?_eq_some_iff.1 HP2.out.t).1
  have cs : wi.cell? ⟨S0, 0, none⟩ = some (.bool sb) := by simp [World.cell?, HP2.out.z]
  have fs : wi.frozen? ⟨S0, 0, none⟩ = false := by simp [World.frozen?, HP2.out.z]
  have ls : S0 < wi.heap.size := (Array.getElem?_eq_some_iff.1 HP2.out.z).1
  have cb : wi.cell? ⟨B0, 0, none⟩ = some (vb) := by simp [World.cell?, HP2.out.b]
  have fb : wi.frozen? ⟨B0, 0, none⟩ = false := by simp [World.frozen?, HP2.out.b]
  have lb : B0 < wi.heap.size := (Array.getElem?_eq_some_iff.1 HP2.out.b).1
  have HPA : Hid ((p ++ [b]).length = p.length + 1) := by show _ = _; simp
  have HRN := Lib.hid hRn
  clear hRn
  have hsk : (p.length : Int) < sk := by have := hs1 (by omega); omega
  have hsk2 : sk = p.length + (m + 1 : Nat) := hs1 (by omega)
  clear hs0 hs1
  go_wp2
  (try refine hK _ _ ?_)
  refine Handed.intro gk (by omega) ?_
  exact ⟨_, args, buf, got, _, _, sq, _, _, _, m, p ++ [b], rest, vb, rfl, ⟨⟨rfl, rfl, rfl, rfl, rfl, rfl, rfl, rfl, rfl, rfl, rfl, rfl, rfl, rfl, rfl, rfl, rfl, rfl, rfl, rfl, (by show Value.int _ _ = Value.int _ _; first | rfl | go_num), rfl⟩, HL2.out, by (have := HPA.out; first | omega | (simp <;> omega)), by (have := HPA.out; first | omega | (simp <;> omega)), by (have := HPA.out; first | omega | (simp <;> omega)), by (have := HPA.out; first | omega | (simp <;> omega)), by (have := HPA.out; first | omega | (simp <;> omega)), by (have := HPA.out; first | omega | (simp <;> omega)), (fun _ => by (have := HPA.out; first | omega | (simp <;> omega))), HP2.out⟩, HRN.out, by omega⟩

set_option maxHeartbeats 12800000 in
set_option maxRecDepth 100000 in
theorem v_sp {c : Code} (hc : Tryd.f26.body.bind loopOf = some c) {w : World} {l : List UInt8} {pp bx ob ocap A0 B0 G0 T0 S0 I0 : Nat} {nm val : List UInt8} {A : List (List UInt8)} (X : Cv w l pp bx ob ocap A0 B0 G0 T0 S0 nm val)
  {us : List Value} {args : List (List UInt8)} {buf : List UInt8} {got : Nat} {tq sb ad : Bool} {i sk : Int} {p rest : List UInt8} {vb : Value} {wr : World}
  (H : Rv w l pp bx A0 B0 G0 T0 S0 I0 us args buf got tq sb false ad i sk (0) p (32 :: rest) vb wr)
  (hRn : Rn nm val (fl args buf got) [] 0 false 0 rest A) {gk0 : Nat} (hg : rest.length + 1 < gk0) {K : Act → World → Prop} {Q : Exit → Act → World → Prop}
  (hK : ∀ a' w', Handed (RIv w l pp bx A0 B0 G0 T0 S0 I0 nm val A) gk0 a' w' → K a' w') :
  c.wp Tryd.prog (Exit.then K Q) ⟨us.toArray, []⟩ wr := by
  have h7 : (32 : UInt8).toNat < 128 := by decide
  have hcc : Tryd.f26.body.bind loopOf = some _ := rfl
  rw [hc] at hcc
  cases hcc
  obtain ⟨i1, hj, hy0, hy1, hy2⟩ := info_parts Tryd.infoByte
  obtain ⟨hl, hv, hpp, hc0, hE0, k, hoc, ho0, ho1, hnt, hve, hvb, hns, hne⟩ := X
  have HK := Lib.hid k
  obtain ⟨fr, he, hgot, hargs, hbuf, hi0, hi1, hs0, hs1, hp⟩ := H
  obtain ⟨hn, s0, s1, s6, s7, s8, s9, s10, s11, s12, s13, s14, s15, s16, s17, s18, s19, s20, s21, s22, s23, s50⟩ := fr
  rw [lit_all us hn, s0, s1, s6, s7, s8, s9, s10, s11, s12, s13, s14, s15, s16, s17, s18, s19, s20, s21, s22, s23, s50]
  clear hn s0 s1 s6 s7 s8 s9 s10 s11 s12 s13 s14 s15 s16 s17 s18 s19 s20 s21 s22 s23 s50
  obtain ⟨gk, rfl⟩ : ∃ m, gk0 = m + 1 := ⟨gk0 - 1, by omega⟩
  have hpl : p.length + 1 + rest.length ≤ 1000 := by rw [he] at hl; simp only [List.length_append, List.length_cons] at hl; omega
  clear hl
  have hit := hp.it
  have hnx : ∀ ty, (Instr.next (.pointer (some ⟨I0, 0, none⟩)) true ty).run Tryd.prog wr = .ok (.tuple #[.bool true, .int .i64 p.length, .int .i32 32]) (wr.iterAt I0 (txt l) (p ++ [(32 : UInt8)]).length) := fun ty => by
    have h := next_part wr I0 p [(32 : UInt8)] rest ((32 : UInt8)).toNat (by rw [show p ++ ([(32 : UInt8)] ++ rest) = l from he.symm]; exact hit) (by simp) (decode7 _ _ h7) ty
    rw [show p ++ ([(32 : UInt8)] ++ rest) = l from he.symm] at h
    exact h
  have hP2 := hp.next (p ++ [(32 : UInt8)]).length
  have HP2 := Lib.hid hP2
  have HL2 : Hid (l = (p ++ [(32 : UInt8)]) ++ rest) := by show _ = _; rw [he, List.append_assoc]; rfl
  generalize wr.iterAt I0 (txt l) (p ++ [(32 : UInt8)]).length = wi at *
  clear hp hit hP2 he
  have hbw := HP2.out.bw
  have hbk := hbw.block pp hpp
  have k0 : wi.cell? ⟨pp, 0, none⟩ = some (.bool true) := (World.cell?_of_block hbk).trans hc0
  have HE2 : Hid (Ex pp [] wi) := hE0.below hbw
  have HB2 := Lib.hid hbw
  clear hbw hbk hE0 hc0 hc
  have cg : wi.cell? ⟨G0, 0, none⟩ = some (.int .i64 got) := by simp [World.cell?, HP2.out.g]
  have fg : wi.frozen? ⟨G0, 0, none⟩ = false := by simp [World.frozen?, HP2.out.g]
  have lg : G0 < wi.heap.size := (Array.getElem?_eq_some_iff.1 HP2.out.g).1
  have ct : wi.cell? ⟨T0, 0, none⟩ = some (.bool tq) := by simp [World.cell?, HP2.out.t]
  have ft : wi.frozen? ⟨T0, 0, none⟩ = false := by simp [World.frozen?, HP2.out.t]
  have lt : T0 < wi.heap.size := (Array.getElem?_eq_some_iff.1 HP2.out.t).1
  have cs : wi.cell? ⟨S0, 0, none⟩ = some (.bool sb) := by simp [World.cell?, HP2.out.z]
  have fs : wi.frozen? ⟨S0, 0, none⟩ = false := by simp [World.frozen?, HP2.out.z]
  have ls : S0 < wi.heap.size := (Array.getElem?_eq_some_iff.1 HP2.out.z).1
  have cb : wi.cell? ⟨B0, 0, none⟩ = some (vb) := by simp [World.cell?, HP2.out.b]
  have fb : wi.frozen? ⟨B0, 0, none⟩ = false := by simp [World.frozen?, HP2.out.b]
  have lb : B0 < wi.heap.size := (Array.getElem?_eq_some_iff.1 HP2.out.b).1
  have HPA : Hid ((p ++ [(32 : UInt8)]).length = p.length + 1) := by show _ = _; simp
  have HRN := Lib.hid hRn
  clear hRn
  have hsk : ¬ (p.length : Int) < sk := by omega
  clear hs0 hs1
  have CX := Lib.hid (excl_any pp [] (32) wi (by simp) HE2.out)
  have CS := Lib.hid (space_any (32) wi)
  rw [show isSp (32) = true from by decide] at CS
  rw [show ([] : List Nat).any (· == (32)) = false from rfl] at CX
  obtain ⟨AF, hAF⟩ : ∃ AF, fl args buf got = AF := ⟨_, rfl⟩
  have hAL : AF.length ≤ args.length + 1 := by rw [← hAF]; exact fl_length _ _ _
  have CF := Lib.hid (flush_v w A0 B0 G0 T0 S0 I0 (p ++ [32]).length (txt l) vb _ args buf [] got tq sb wi HK.out HP2.out (by omega) hgot)
  rw [show (if got == 2 || (got != 0 && !buf.isEmpty) then args ++ [buf] else args) = AF from hAF] at CF
  rw [hAF] at HRN
  clear hAF
  go_upto_region 50 with fail
  refine CX.out.mono ?_
  rintro e wx ⟨rfl, hwx⟩
  obtain rfl := hwx.symm
  go_upto_region 50 with fail
  refine CS.out.mono ?_
  rintro e wx ⟨rfl, hwx⟩
  obtain rfl := hwx.symm
  go_wp2_with fail
  refine CF.out.mono ?_
  rintro e wf ⟨rfl, vbf, hPF⟩
  have HPF := Lib.hid hPF
  clear hPF
  go_wp2
  (try refine hK _ _ ?_)
  refine Handed.intro gk (by omega) ?_
  exact ⟨_, AF, [], 0, _, _, false, _, _, _, 0, p ++ [32], rest, vbf, rfl, ⟨⟨rfl, rfl, rfl, rfl, rfl, rfl, rfl, rfl, rfl, rfl, rfl, rfl, rfl, rfl, rfl, rfl, rfl, rfl, rfl, rfl, (by show Value.int _ _ = Value.int _ _; first | rfl | go_num), rfl⟩, HL2.out, by (have := HPA.out; first | omega | (simp <;> omega)), by (have := HPA.out; first | omega | (simp <;> omega)), by (have := HPA.out; first | omega | (simp <;> omega)), by (have := HPA.out; first | omega | (simp <;> omega)), by (have := HPA.out; first | omega | (simp <;> omega)), by (have := HPA.out; first | omega | (simp <;> omega)), (fun h => absurd h (by omega)), HPF.out⟩, HRN.out, by omega⟩

set_option maxHeartbeats 12800000 in
set_option maxRecDepth 100000 in
theorem v_qo {c : Code} (hc : Tryd.f26.body.bind loopOf = some c) {w : World} {l : List UInt8} {pp bx ob ocap A0 B0 G0 T0 S0 I0 : Nat} {nm val : List UInt8} {A : List (List UInt8)} (X : Cv w l pp bx ob ocap A0 B0 G0 T0 S0 nm val)
  {us : List Value} {args : List (List UInt8)} {buf : List UInt8} {got : Nat} {tq sb ad : Bool} {i sk : Int} {p rest : List UInt8} {vb : Value} {wr : World}
  (H : Rv w l pp bx A0 B0 G0 T0 S0 I0 us args buf got tq sb false ad i sk (0) p (39 :: rest) vb wr)
  (hRn : Rn nm val args buf got true 0 rest A) {gk0 : Nat} (hg : rest.length + 1 < gk0) {K : Act → World → Prop} {Q : Exit → Act → World → Prop}
  (hK : ∀ a' w', Handed (RIv w l pp bx A0 B0 G0 T0 S0 I0 nm val A) gk0 a' w' → K a' w') :
  c.wp Tryd.prog (Exit.then K Q) ⟨us.toArray, []⟩ wr := by
  have h7 : (39 : UInt8).toNat < 128 := by decide
  have hcc : Tryd.f26.body.bind loopOf = some _ := rfl
  rw [hc] at hcc
  cases hcc
  obtain ⟨i1, hj, hy0, hy1, hy2⟩ := info_parts Tryd.infoByte
  obtain ⟨hl, hv, hpp, hc0, hE0, k, hoc, ho0, ho1, hnt, hve, hvb, hns, hne⟩ := X
  have HK := Lib.hid k
  obtain ⟨fr, he, hgot, hargs, hbuf, hi0, hi1, hs0, hs1, hp⟩ := H
  obtain ⟨hn, s0, s1, s6, s7, s8, s9, s10, s11, s12, s13, s14, s15, s16, s17, s18, s19, s20, s21, s22, s23, s50⟩ := fr
  rw [lit_all us hn, s0, s1, s6, s7, s8, s9, s10, s11, s12, s13, s14, s15, s16, s17, s18, s19, s20, s21, s22, s23, s50]
  clear hn s0 s1 s6 s7 s8 s9 s10 s11 s12 s13 s14 s15 s16 s17 s18 s19 s20 s21 s22 s23 s50
  obtain ⟨gk, rfl⟩ : ∃ m, gk0 = m + 1 := ⟨gk0 - 1, by omega⟩
  have hpl : p.length + 1 + rest.length ≤ 1000 := by rw [he] at hl; simp only [List.length_append, List.length_cons] at hl; omega
  clear hl
  have hit := hp.it
  have hnx : ∀ ty, (Instr.next (.pointer (some ⟨I0, 0, none⟩)) true ty).run Tryd.prog wr = .ok (.tuple #[.bool true, .int .i64 p.length, .int .i32 39]) (wr.iterAt I0 (txt l) (p ++ [(39 : UInt8)]).length) := fun ty => by
    have h := next_part wr I0 p [(39 : UInt8)] rest ((39 : UInt8)).toNat (by rw [show p ++ ([(39 : UInt8)] ++ rest) = l from he.symm]; exact hit) (by simp) (decode7 _ _ h7) ty
    rw [show p ++ ([(39 : UInt8)] ++ rest) = l from he.symm] at h
    exact h
  have hP2 := hp.next (p ++ [(39 : UInt8)]).length
  have HP2 := Lib.hid hP2
  have HL2 : Hid (l = (p ++ [(39 : UInt8)]) ++ rest) := by show _ = _; rw [he, List.append_assoc]; rfl
  generalize wr.iterAt I0 (txt l) (p ++ [(39 : UInt8)]).length = wi at *
  clear hp hit hP2 he
  have hbw := HP2.out.bw
  have hbk := hbw.block pp hpp
  have k0 : wi.cell? ⟨pp, 0, none⟩ = some (.bool true) := (World.cell?_of_block hbk).trans hc0
  have HE2 : Hid (Ex pp [] wi) := hE0.below hbw
  have HB2 := Lib.hid hbw
  clear hbw hbk hE0 hc0 hc
  have cg : wi.cell? ⟨G0, 0, none⟩ = some (.int .i64 got) := by simp [World.cell?, HP2.out.g]
  have fg : wi.frozen? ⟨G0, 0, none⟩ = false := by simp [World.frozen?, HP2.out.g]
  have lg : G0 < wi.heap.size := (Array.getElem?_eq_some_iff.1 HP2.out.g).1
  have ct : wi.cell? ⟨T0, 0, none⟩ = some (.bool tq) := by simp [World.cell?, HP2.out.t]
  have ft : wi.frozen? ⟨T0, 0, none⟩ = false := by simp [World.frozen?, HP2.out.t]
  have lt : T0 < wi.heap.size := (Array.getElem?_eq_some_iff.1 HP2.out.t).1
  have cs : wi.cell? ⟨S0, 0, none⟩ = some (.bool sb) := by simp [World.cell?, HP2.out.z]
  have fs : wi.frozen? ⟨S0, 0, none⟩ = false := by simp [World.frozen?, HP2.out.z]
  have ls : S0 < wi.heap.size := (Array.getElem?_eq_some_iff.1 HP2.out.z).1
  have cb : wi.cell? ⟨B0, 0, none⟩ = some (vb) := by simp [World.cell?, HP2.out.b]
  have fb : wi.frozen? ⟨B0, 0, none⟩ = false := by simp [World.frozen?, HP2.out.b]
  have lb : B0 < wi.heap.size := (Array.getElem?_eq_some_iff.1 HP2.out.b).1
  have HPA : Hid ((p ++ [(39 : UInt8)]).length = p.length + 1) := by show _ = _; simp
  have HRN := Lib.hid hRn
  clear hRn
  have hsk : ¬ (p.length : Int) < sk := by omega
  clear hs0 hs1
  have CX := Lib.hid (excl_any pp [] (39) wi (by simp) HE2.out)
  have CS := Lib.hid (space_any (39) wi)
  rw [show isSp (39) = false from by decide] at CS
  rw [show ([] : List Nat).any (· == (39)) = false from rfl] at CX
  go_upto_region 50 with fail
  refine CX.out.mono ?_
  rintro e wx ⟨rfl, hwx⟩
  obtain rfl := hwx.symm
  go_upto_region 50 with fail
  refine CS.out.mono ?_
  rintro e wx ⟨rfl, hwx⟩
  obtain rfl := hwx.symm
  have HB := Lib.hid (HP2.out.setT HK.out true)
  go_wp2
  (try refine hK _ _ ?_)
  refine Handed.intro gk (by omega) ?_
  exact ⟨_, args, buf, got, _, _, true, _, _, _, 0, p ++ [39], rest, vb, rfl, ⟨⟨rfl, rfl, rfl, rfl, rfl, rfl, rfl, rfl, rfl, rfl, rfl, rfl, rfl, rfl, rfl, rfl, rfl, rfl, rfl, rfl, (by show Value.int _ _ = Value.int _ _; first | rfl | go_num), rfl⟩, HL2.out, by (have := HPA.out; first | omega | (simp <;> omega)), by (have := HPA.out; first | omega | (simp <;> omega)), by (have := HPA.out; first | omega | (simp <;> omega)), by (have := HPA.out; first | omega | (simp <;> omega)), by (have := HPA.out; first | omega | (simp <;> omega)), by (have := HPA.out; first | omega | (simp <;> omega)), (fun h => absurd h (by omega)), HB.out⟩, HRN.out, by omega⟩

set_option maxHeartbeats 12800000 in
set_option maxRecDepth 100000 in
theorem v_qc {c : Code} (hc : Tryd.f26.body.bind loopOf = some c) {w : World} {l : List UInt8} {pp bx ob ocap A0 B0 G0 T0 S0 I0 : Nat} {nm val : List UInt8} {A : List (List UInt8)} (X : Cv w l pp bx ob ocap A0 B0 G0 T0 S0 nm val)
  {us : List Value} {args : List (List UInt8)} {buf : List UInt8} {got : Nat} {tq sb ad : Bool} {i sk : Int} {p rest : List UInt8} {vb : Value} {wr : World}
  (H : Rv w l pp bx A0 B0 G0 T0 S0 I0 us args buf got tq sb true ad i sk (0) p (39 :: rest) vb wr)
  (hRn : Rn nm val args buf 2 false 0 rest A) {gk0 : Nat} (hg : rest.length + 1 < gk0) {K : Act → World → Prop} {Q : Exit → Act → World → Prop}
  (hK : ∀ a' w', Handed (RIv w l pp bx A0 B0 G0 T0 S0 I0 nm val A) gk0 a' w' → K a' w') :
  c.wp Tryd.prog (Exit.then K Q) ⟨us.toArray, []⟩ wr := by
  have h7 : (39 : UInt8).toNat < 128 := by decide
  have hcc : Tryd.f26.body.bind loopOf = some _ := rfl
  rw [hc] at hcc
  cases hcc
  obtain ⟨i1, hj, hy0, hy1, hy2⟩ := info_parts Tryd.infoByte
  obtain ⟨hl, hv, hpp, hc0, hE0, k, hoc, ho0, ho1, hnt, hve, hvb, hns, hne⟩ := X
  have HK := Lib.hid k
  obtain ⟨fr, he, hgot, hargs, hbuf, hi0, hi1, hs0, hs1, hp⟩ := H
  obtain ⟨hn, s0, s1, s6, s7, s8, s9, s10, s11, s12, s13, s14, s15, s16, s17, s18, s19, s20, s21, s22, s23, s50⟩ := fr
  rw [lit_all us hn, s0, s1, s6, s7, s8, s9, s10, s11, s12, s13, s14, s15, s16, s17, s18, s19, s20, s21, s22, s23, s50]
  clear hn s0 s1 s6 s7 s8 s9 s10 s11 s12 s13 s14 s15 s16 s17 s18 s19 s20 s21 s22 s23 s50
  obtain ⟨gk, rfl⟩ : ∃ m, gk0 = m + 1 := ⟨gk0 - 1, by omega⟩
  have hpl : p.length + 1 + rest.length ≤ 1000 := by rw [he] at hl; simp only [List.length_append, List.length_cons] at hl; omega
  clear hl
  have hit := hp.it
  have hnx : ∀ ty, (Instr.next (.pointer (some ⟨I0, 0, none⟩)) true ty).run Tryd.prog wr = .ok (.tuple #[.bool true, .int .i64 p.length, .int .i32 39]) (wr.iterAt I0 (txt l) (p ++ [(39 : UInt8)]).length) := fun ty => by
    have h := next_part wr I0 p [(39 : UInt8)] rest ((39 : UInt8)).toNat (by rw [show p ++ ([(39 : UInt8)] ++ rest) = l from he.symm]; exact hit) (by simp) (decode7 _ _ h7) ty
    rw [show p ++ ([(39 : UInt8)] ++ rest) = l from he.symm] at h
    exact h
  have hP2 := hp.next (p ++ [(39 : UInt8)]).length
  have HP2 := Lib.hid hP2
  have HL2 : Hid (l = (p ++ [(39 : UInt8)]) ++ rest) := by show _ = _; rw [he, List.append_assoc]; rfl
  generalize wr.iterAt I0 (txt l) (p ++ [(39 : UInt8)]).length = wi at *
  clear hp hit hP2 he
  have hbw := HP2.out.bw
  have hbk := hbw.block pp hpp
  have k0 : wi.cell? ⟨pp, 0, none⟩ = some (.bool true) := (World.cell?_of_block hbk).trans hc0
  have HE2 : Hid (Ex pp [] wi) := hE0.below hbw
  have HB2 := Lib.hid hbw
  clear hbw hbk hE0 hc0 hc
  have cg : wi.cell? ⟨G0, 0, none⟩ = some (.int .i64 got) := by simp [World.cell?, HP2.out.g]
  have fg : wi.frozen? ⟨G0, 0, none⟩ = false := by simp [World.frozen?, HP2.out.g]
  have lg : G0 < wi.heap.size := (Array.getElem?_eq_some_iff.1 HP2.out.g).1
  have ct : wi.cell? ⟨T0, 0, none⟩ = some (.bool tq) := by simp [World.cell?, HP2.out.t]
  have ft : wi.frozen? ⟨T0, 0, none⟩ = false := by simp [World.frozen?, HP2.out.t]
  have lt : T0 < wi.heap.size := (Array.getElem?_eq_some_iff.1 HP2.out.t).1
  have cs : wi.cell? ⟨S0, 0, none⟩ = some (.bool sb) := by simp [World.cell?, HP2.out.z]
  have fs : wi.frozen? ⟨S0, 0, none⟩ = false := by simp [World.frozen?, HP2.out.z]
  have ls : S0 < wi.heap.size := (Array.getElem?_eq_some_iff.1 HP2.out.z).1
  have cb : wi.cell? ⟨B0, 0, none⟩ = some (vb) := by simp [World.cell?, HP2.out.b]
  have fb : wi.frozen? ⟨B0, 0, none⟩ = false := by simp [World.frozen?, HP2.out.b]
  have lb : B0 < wi.heap.size := (Array.getElem?_eq_some_iff.1 HP2.out.b).1
  have HPA : Hid ((p ++ [(39 : UInt8)]).length = p.length + 1) := by show _ = _; simp
  have HRN := Lib.hid hRn
  clear hRn
  have hsk : ¬ (p.length : Int) < sk := by omega
  clear hs0 hs1
  have CX := Lib.hid (excl_any pp [] (39) wi (by simp) HE2.out)
  have CS := Lib.hid (space_any (39) wi)
  rw [show isSp (39) = false from by decide] at CS
  rw [show ([] : List Nat).any (· == (39)) = false from rfl] at CX
  go_upto_region 50 with fail
  refine CX.out.mono ?_
  rintro e wx ⟨rfl, hwx⟩
  obtain rfl := hwx.symm
  go_upto_region 50 with fail
  refine CS.out.mono ?_
  rintro e wx ⟨rfl, hwx⟩
  obtain rfl := hwx.symm
  go_upto_region 84 with fail
  have HA := Lib.hid (HP2.out.setG HK.out 2)
  clear cg fg lg ct ft lt cs fs ls cb fb lb
  generalize wi.setCell ⟨G0, 0, none⟩ (.int .i64 2) = wa at *
  have cg : wa.cell? ⟨G0, 0, none⟩ = some (.int .i64 2) := by simp [World.cell?, HA.out.g]
  have fg : wa.frozen? ⟨G0, 0, none⟩ = false := by simp [World.frozen?, HA.out.g]
  have lg : G0 < wa.heap.size := (Array.getElem?_eq_some_iff.1 HA.out.g).1
  have ct : wa.cell? ⟨T0, 0, none⟩ = some (.bool tq) := by simp [World.cell?, HA.out.t]
  have ft : wa.frozen? ⟨T0, 0, none⟩ = false := by simp [World.frozen?, HA.out.t]
  have lt : T0 < wa.heap.size := (Array.getElem?_eq_some_iff.1 HA.out.t).1
  have cs : wa.cell? ⟨S0, 0, none⟩ = some (.bool sb) := by simp [World.cell?, HA.out.z]
  have fs : wa.frozen? ⟨S0, 0, none⟩ = false := by simp [World.frozen?, HA.out.z]
  have ls : S0 < wa.heap.size := (Array.getElem?_eq_some_iff.1 HA.out.z).1
  have cb : wa.cell? ⟨B0, 0, none⟩ = some (vb) := by simp [World.cell?, HA.out.b]
  have fb : wa.frozen? ⟨B0, 0, none⟩ = false := by simp [World.frozen?, HA.out.b]
  have lb : B0 < wa.heap.size := (Array.getElem?_eq_some_iff.1 HA.out.b).1
  have HB := Lib.hid (HA.out.setT HK.out true)
  go_wp2
  (try refine hK _ _ ?_)
  refine Handed.intro gk (by omega) ?_
  exact ⟨_, args, buf, 2, _, _, false, _, _, _, 0, p ++ [39], rest, vb, rfl, ⟨⟨rfl, rfl, rfl, rfl, rfl, rfl, rfl, rfl, rfl, rfl, rfl, rfl, rfl, rfl, rfl, rfl, rfl, rfl, rfl, rfl, (by show Value.int _ _ = Value.int _ _; first | rfl | go_num), rfl⟩, HL2.out, by (have := HPA.out; first | omega | (simp <;> omega)), by (have := HPA.out; first | omega | (simp <;> omega)), by (have := HPA.out; first | omega | (simp <;> omega)), by (have := HPA.out; first | omega | (simp <;> omega)), by (have := HPA.out; first | omega | (simp <;> omega)), by (have := HPA.out; first | omega | (simp <;> omega)), (fun h => absurd h (by omega)), HB.out⟩, HRN.out, by omega⟩

set_option maxHeartbeats 12800000 in
set_option maxRecDepth 100000 in
theorem v_put {c : Code} (hc : Tryd.f26.body.bind loopOf = some c) {w : World} {l : List UInt8} {pp bx ob ocap A0 B0 G0 T0 S0 I0 : Nat} {nm val : List UInt8} {A : List (List UInt8)} (X : Cv w l pp bx ob ocap A0 B0 G0 T0 S0 nm val)
  {us : List Value} {args : List (List UInt8)} {buf : List UInt8} {got : Nat} {tq sb sq ad : Bool} {i sk : Int} {p rest : List UInt8} {b : UInt8} {vb : Value} {wr : World}
  (H : Rv w l pp bx A0 B0 G0 T0 S0 I0 us args buf got tq sb sq ad i sk (0) p (b :: rest) vb wr) (hsb : simB b = true) (h7 : b.toNat < 128)
  (hRn : Rn nm val args (buf ++ [b]) 1 sq 0 rest A) {gk0 : Nat} (hg : rest.length + 1 < gk0) {K : Act → World → Prop} {Q : Exit → Act → World → Prop}
  (hK : ∀ a' w', Handed (RIv w l pp bx A0 B0 G0 T0 S0 I0 nm val A) gk0 a' w' → K a' w') :
  c.wp Tryd.prog (Exit.then K Q) ⟨us.toArray, []⟩ wr := by
  have hcc : Tryd.f26.body.bind loopOf = some _ := rfl
  rw [hc] at hcc
  cases hcc
  obtain ⟨i1, hj, hy0, hy1, hy2⟩ := info_parts Tryd.infoByte
  obtain ⟨hl, hv, hpp, hc0, hE0, k, hoc, ho0, ho1, hnt, hve, hvb, hns, hne⟩ := X
  have HK := Lib.hid k
  obtain ⟨fr, he, hgot, hargs, hbuf, hi0, hi1, hs0, hs1, hp⟩ := H
  obtain ⟨hn, s0, s1, s6, s7, s8, s9, s10, s11, s12, s13, s14, s15, s16, s17, s18, s19, s20, s21, s22, s23, s50⟩ := fr
  rw [lit_all us hn, s0, s1, s6, s7, s8, s9, s10, s11, s12, s13, s14, s15, s16, s17, s18, s19, s20, s21, s22, s23, s50]
  clear hn s0 s1 s6 s7 s8 s9 s10 s11 s12 s13 s14 s15 s16 s17 s18 s19 s20 s21 s22 s23 s50
  obtain ⟨gk, rfl⟩ : ∃ m, gk0 = m + 1 := ⟨gk0 - 1, by omega⟩
  have hpl : p.length + 1 + rest.length ≤ 1000 := by rw [he] at hl; simp only [List.length_append, List.length_cons] at hl; omega
  clear hl
  have hit := hp.it
  have hnx : ∀ ty, (Instr.next (.pointer (some ⟨I0, 0, none⟩)) true ty).run Tryd.prog wr = .ok (.tuple #[.bool true, .int .i64 p.length, .int .i32 b.toNat]) (wr.iterAt I0 (txt l) (p ++ [b]).length) := fun ty => by
    have h := next_part wr I0 p [b] rest (b).toNat (by rw [show p ++ ([b] ++ rest) = l from he.symm]; exact hit) (by simp) (decode7 _ _ h7) ty
    rw [show p ++ ([b] ++ rest) = l from he.symm] at h
    exact h
  have hP2 := hp.next (p ++ [b]).length
  have HP2 := Lib.hid hP2
  have HL2 : Hid (l = (p ++ [b]) ++ rest) := by show _ = _; rw [he, List.append_assoc]; rfl
  generalize wr.iterAt I0 (txt l) (p ++ [b]).length = wi at *
  clear hp hit hP2 he
  have hbw := HP2.out.bw
  have hbk := hbw.block pp hpp
  have k0 : wi.cell? ⟨pp, 0, none⟩ = some (.bool true) := (World.cell?_of_block hbk).trans hc0
  have HE2 : Hid (Ex pp [] wi) := hE0.below hbw
  have HB2 := Lib.hid hbw
  clear hbw hbk hE0 hc0 hc
  have cg : wi.cell? ⟨G0, 0, none⟩ = some (.int .i64 got) := by simp [World.cell?, HP2.out.g]
  have fg : wi.frozen? ⟨G0, 0, none⟩ = false := by simp [World.frozen?, HP2.out.g]
  have lg : G0 < wi.heap.size := (Array.getElem?_eq_some_iff.1 HP2.out.g).1
  have ct : wi.cell? ⟨T0, 0, none⟩ = some (.bool tq) := by simp [World.cell?, HP2.out.t]
  have ft : wi.frozen? ⟨T0, 0, none⟩ = false := by simp [World.frozen?, HP2.out.t]
  have lt : T0 < wi.heap.size := (Array.getElem?_eq_some_iff.1 HP2.out.t).1
  have cs : wi.cell? ⟨S0, 0, none⟩ = some (.bool sb) := by simp [World.cell?, HP2.out.z]
  have fs : wi.frozen? ⟨S0, 0, none⟩ = false := by simp [World.frozen?, HP2.out.z]
  have ls : S0 < wi.heap.size := (Array.getElem?_eq_some_iff.1 HP2.out.z).1
  have cb : wi.cell? ⟨B0, 0, none⟩ = some (vb) := by simp [World.cell?, HP2.out.b]
  have fb : wi.frozen? ⟨B0, 0, none⟩ = false := by simp [World.frozen?, HP2.out.b]
  have lb : B0 < wi.heap.size := (Array.getElem?_eq_some_iff.1 HP2.out.b).1
  have HPA : Hid ((p ++ [b]).length = p.length + 1) := by show _ = _; simp
  have HRN := Lib.hid hRn
  clear hRn
  have hsk : ¬ (p.length : Int) < sk := by omega
  clear hs0 hs1
  have hlet : (97 ≤ b.toNat ∧ b.toNat ≤ 122) ∨ (65 ≤ b.toNat ∧ b.toNat ≤ 90) ∨ (48 ≤ b.toNat ∧ b.toNat ≤ 57) := by unfold simB letterB at hsb; rw [Bool.or_eq_true, decide_eq_true_eq, decide_eq_true_eq] at hsb; omega
  have e92 : ((b.toNat : Int) == 92) = false := beq_eq_false_iff_ne.2 (by omega)
  have e96 : ((b.toNat : Int) == 96) = false := beq_eq_false_iff_ne.2 (by omega)
  have e41 : ((b.toNat : Int) == 41) = false := beq_eq_false_iff_ne.2 (by omega)
  have e40 : ((b.toNat : Int) == 40) = false := beq_eq_false_iff_ne.2 (by omega)
  have e34 : ((b.toNat : Int) == 34) = false := beq_eq_false_iff_ne.2 (by omega)
  have e39 : ((b.toNat : Int) == 39) = false := beq_eq_false_iff_ne.2 (by omega)
  have e59 : ((b.toNat : Int) == 59) = false := beq_eq_false_iff_ne.2 (by omega)
  have e38 : ((b.toNat : Int) == 38) = false := beq_eq_false_iff_ne.2 (by omega)
  have e124 : ((b.toNat : Int) == 124) = false := beq_eq_false_iff_ne.2 (by omega)
  have e60 : ((b.toNat : Int) == 60) = false := beq_eq_false_iff_ne.2 (by omega)
  have e62 : ((b.toNat : Int) == 62) = false := beq_eq_false_iff_ne.2 (by omega)
  have e36 : ((b.toNat : Int) == 36) = false := beq_eq_false_iff_ne.2 (by omega)
  have e35 : ((b.toNat : Int) == 35) = false := beq_eq_false_iff_ne.2 (by omega)
  have CX := Lib.hid (excl_any pp [] (b.toNat) wi (by simp) HE2.out)
  have CS := Lib.hid (space_any (b.toNat) wi)
  rw [show isSp (b.toNat) = false from by (unfold isSp; simp; omega)] at CS
  rw [show ([] : List Nat).any (· == (b.toNat)) = false from rfl] at CX
  clear hsb hlet
  go_upto_region 50 with fail
  refine CX.out.mono ?_
  rintro e wx ⟨rfl, hwx⟩
  obtain rfl := hwx.symm
  go_upto_region 50 with fail
  refine CS.out.mono ?_
  rintro e wx ⟨rfl, hwx⟩
  obtain rfl := hwx.symm
  go_upto_region 124 with fail
  have HG := Lib.hid (HP2.out.setG HK.out 1)
  clear cg fg lg ct ft lt cs fs ls cb fb lb
  generalize wi.setCell ⟨G0, 0, none⟩ (.int .i64 1) = wg at *
  have cg : wg.cell? ⟨G0, 0, none⟩ = some (.int .i64 1) := by simp [World.cell?, HG.out.g]
  have fg : wg.frozen? ⟨G0, 0, none⟩ = false := by simp [World.frozen?, HG.out.g]
  have lg : G0 < wg.heap.size := (Array.getElem?_eq_some_iff.1 HG.out.g).1
  have ct : wg.cell? ⟨T0, 0, none⟩ = some (.bool tq) := by simp [World.cell?, HG.out.t]
  have ft : wg.frozen? ⟨T0, 0, none⟩ = false := by simp [World.frozen?, HG.out.t]
  have lt : T0 < wg.heap.size := (Array.getElem?_eq_some_iff.1 HG.out.t).1
  have cs : wg.cell? ⟨S0, 0, none⟩ = some (.bool sb) := by simp [World.cell?, HG.out.z]
  have fs : wg.frozen? ⟨S0, 0, none⟩ = false := by simp [World.frozen?, HG.out.z]
  have ls : S0 < wg.heap.size := (Array.getElem?_eq_some_iff.1 HG.out.z).1
  have cb : wg.cell? ⟨B0, 0, none⟩ = some (vb) := by simp [World.cell?, HG.out.b]
  have fb : wg.frozen? ⟨B0, 0, none⟩ = false := by simp [World.frozen?, HG.out.b]
  have lb : B0 < wg.heap.size := (Array.getElem?_eq_some_iff.1 HG.out.b).1
  have hone : ([b] : List UInt8).length = 1 := rfl
  go_wp2_with (at_builtin; refine wpList_append_str_mv rfl _ _ 23 9 rfl w.heap.size 5 i1 Tryd.underlying23 Tryd.underlying9 hj hy0 hy1 hy2 vb buf.length (byteCells buf) rfl HG.out.br (txt ([b])) (congrArg Value.string (encode7 b h7)) (by unfold maxLen; rw [txt_size]; skip; omega) (by rw [txt_size]; skip; omega) HG.out.bw.size ?_)
  intro vN2 wN2 hoN hgN hmN
  obtain ⟨aN2, mN2, cN2, rfl⟩ := owns_form hoN
  obtain ⟨e0, e1, e2, hPN⟩ := PV.addBuf HK.out HG.out hgN hoN hmN
  have HB := Lib.hid hPN
  clear hPN hoN hgN hmN
  clear cg fg lg ct ft lt cs fs ls cb fb lb
  go_upto_region 125 with fail
  generalize wN2.setCell ⟨B0, 0, none⟩ (Value.slice aN2 mN2 cN2) = wb at *
  clear e0 e1 e2
  generalize Value.slice aN2 mN2 cN2 = vN2 at *
  go_upto_region 127 with fail
  go_wp2
  (try refine hK _ _ ?_)
  refine Handed.intro gk (by omega) ?_
  exact ⟨_, args, (buf ++ [b]), 1, _, _, sq, _, _, _, 0, p ++ [b], rest, vN2, rfl, ⟨⟨rfl, rfl, rfl, rfl, rfl, rfl, rfl, rfl, rfl, rfl, rfl, rfl, rfl, rfl, rfl, rfl, rfl, rfl, rfl, rfl, (by show Value.int _ _ = Value.int _ _; first | rfl | go_num), rfl⟩, HL2.out, by (have := HPA.out; first | omega | (simp <;> omega)), by (have := HPA.out; first | omega | (simp <;> omega)), by (have := HPA.out; first | omega | (simp <;> omega)), by (have := HPA.out; first | omega | (simp <;> omega)), by (have := HPA.out; first | omega | (simp <;> omega)), by (have := HPA.out; first | omega | (simp <;> omega)), (fun h => absurd h (by omega)), HB.out⟩, HRN.out, by omega⟩

set_option maxHeartbeats 12800000 in
set_option maxRecDepth 100000 in
theorem v_dol {c : Code} (hc : Tryd.f26.body.bind loopOf = some c) {w : World} {l : List UInt8} {pp bx ob ocap A0 B0 G0 T0 S0 I0 : Nat} {nm val : List UInt8} {A : List (List UInt8)} (X : Cv w l pp bx ob ocap A0 B0 G0 T0 S0 nm val)
  {us : List Value} {args : List (List UInt8)} {buf : List UInt8} {got : Nat} {tq sb ad : Bool} {i sk : Int} {p rest : List UInt8} {vb : Value} {wr : World}
  (H : Rv w l pp bx A0 B0 G0 T0 S0 I0 us args buf got tq sb true ad i sk (0) p (36 :: rest) vb wr)
  (hRn : Rn nm val args (buf ++ [36]) 1 true 0 rest A) {gk0 : Nat} (hg : rest.length + 1 < gk0) {K : Act → World → Prop} {Q : Exit → Act → World → Prop}
  (hK : ∀ a' w', Handed (RIv w l pp bx A0 B0 G0 T0 S0 I0 nm val A) gk0 a' w' → K a' w') :
  c.wp Tryd.prog (Exit.then K Q) ⟨us.toArray, []⟩ wr := by
  have h7 : (36 : UInt8).toNat < 128 := by decide
  have hcc : Tryd.f26.body.bind loopOf = some _ := rfl
  rw [hc] at hcc
  cases hcc
  obtain ⟨i1, hj, hy0, hy1, hy2⟩ := info_parts Tryd.infoByte
  obtain ⟨hl, hv, hpp, hc0, hE0, k, hoc, ho0, ho1, hnt, hve, hvb, hns, hne⟩ := X
  have HK := Lib.hid k
  obtain ⟨fr, he, hgot, hargs, hbuf, hi0, hi1, hs0, hs1, hp⟩ := H
  obtain ⟨hn, s0, s1, s6, s7, s8, s9, s10, s11, s12, s13, s14, s15, s16, s17, s18, s19, s20, s21, s22, s23, s50⟩ := fr
  rw [lit_all us hn, s0, s1, s6, s7, s8, s9, s10, s11, s12, s13, s14, s15, s16, s17, s18, s19, s20, s21, s22, s23, s50]
  clear hn s0 s1 s6 s7 s8 s9 s10 s11 s12 s13 s14 s15 s16 s17 s18 s19 s20 s21 s22 s23 s50
  obtain ⟨gk, rfl⟩ : ∃ m, gk0 = m + 1 := ⟨gk0 - 1, by omega⟩
  have hpl : p.length + 1 + rest.length ≤ 1000 := by rw [he] at hl; simp only [List.length_append, List.length_cons] at hl; omega
  clear hl
  have hit := hp.it
  have hnx : ∀ ty, (Instr.next (.pointer (some ⟨I0, 0, none⟩)) true ty).run Tryd.prog wr = .ok (.tuple #[.bool true, .int .i64 p.length, .int .i32 36]) (wr.iterAt I0 (txt l) (p ++ [(36 : UInt8)]).length) := fun ty => by
    have h := next_part wr I0 p [(36 : UInt8)] rest ((36 : UInt8)).toNat (by rw [show p ++ ([(36 : UInt8)] ++ rest) = l from he.symm]; exact hit) (by simp) (decode7 _ _ h7) ty
    rw [show p ++ ([(36 : UInt8)] ++ rest) = l from he.symm] at h
    exact h
  have hP2 := hp.next (p ++ [(36 : UInt8)]).length
  have HP2 := Lib.hid hP2
  have HL2 : Hid (l = (p ++ [(36 : UInt8)]) ++ rest) := by show _ = _; rw [he, List.append_assoc]; rfl
  generalize wr.iterAt I0 (txt l) (p ++ [(36 : UInt8)]).length = wi at *
  clear hp hit hP2 he
  have hbw := HP2.out.bw
  have hbk := hbw.block pp hpp
  have k0 : wi.cell? ⟨pp, 0, none⟩ = some (.bool true) := (World.cell?_of_block hbk).trans hc0
  have HE2 : Hid (Ex pp [] wi) := hE0.below hbw
  have HB2 := Lib.hid hbw
  clear hbw hbk hE0 hc0 hc
  have cg : wi.cell? ⟨G0, 0, none⟩ = some (.int .i64 got) := by simp [World.cell?, HP2.out.g]
  have fg : wi.frozen? ⟨G0, 0, none⟩ = false := by simp [World.frozen?, HP2.out.g]
  have lg : G0 < wi.heap.size := (Array.getElem?_eq_some_iff.1 HP2.out.g).1
  have ct : wi.cell? ⟨T0, 0, none⟩ = some (.bool tq) := by simp [World.cell?, HP2.out.t]
  have ft : wi.frozen? ⟨T0, 0, none⟩ = false := by simp [World.frozen?, HP2.out.t]
  have lt : T0 < wi.heap.size := (Array.getElem?_eq_some_iff.1 HP2.out.t).1
  have cs : wi.cell? ⟨S0, 0, none⟩ = some (.bool sb) := by simp [World.cell?, HP2.out.z]
  have fs : wi.frozen? ⟨S0, 0, none⟩ = false := by simp [World.frozen?, HP2.out.z]
  have ls : S0 < wi.heap.size := (Array.getElem?_eq_some_iff.1 HP2.out.z).1
  have cb : wi.cell? ⟨B0, 0, none⟩ = some (vb) := by simp [World.cell?, HP2.out.b]
  have fb : wi.frozen? ⟨B0, 0, none⟩ = false := by simp [World.frozen?, HP2.out.b]
  have lb : B0 < wi.heap.size := (Array.getElem?_eq_some_iff.1 HP2.out.b).1
  have HPA : Hid ((p ++ [(36 : UInt8)]).length = p.length + 1) := by show _ = _; simp
  have HRN := Lib.hid hRn
  clear hRn
  have hsk : ¬ (p.length : Int) < sk := by omega
  clear hs0 hs1
  have h36e : Utf8.encode 36 = txt [36] := encode7 36 (by decide)
  have CX := Lib.hid (excl_any pp [] (36) wi (by simp) HE2.out)
  have CS := Lib.hid (space_any (36) wi)
  rw [show isSp (36) = false from by decide] at CS
  rw [show ([] : List Nat).any (· == (36)) = false from rfl] at CX
  go_upto_region 50 with fail
  refine CX.out.mono ?_
  rintro e wx ⟨rfl, hwx⟩
  obtain rfl := hwx.symm
  go_upto_region 50 with fail
  refine CS.out.mono ?_
  rintro e wx ⟨rfl, hwx⟩
  obtain rfl := hwx.symm
  go_upto_region 124 with fail
  have HG := Lib.hid (HP2.out.setG HK.out 1)
  clear cg fg lg ct ft lt cs fs ls cb fb lb
  generalize wi.setCell ⟨G0, 0, none⟩ (.int .i64 1) = wg at *
  have cg : wg.cell? ⟨G0, 0, none⟩ = some (.int .i64 1) := by simp [World.cell?, HG.out.g]
  have fg : wg.frozen? ⟨G0, 0, none⟩ = false := by simp [World.frozen?, HG.out.g]
  have lg : G0 < wg.heap.size := (Array.getElem?_eq_some_iff.1 HG.out.g).1
  have ct : wg.cell? ⟨T0, 0, none⟩ = some (.bool tq) := by simp [World.cell?, HG.out.t]
  have ft : wg.frozen? ⟨T0, 0, none⟩ = false := by simp [World.frozen?, HG.out.t]
  have lt : T0 < wg.heap.size := (Array.getElem?_eq_some_iff.1 HG.out.t).1
  have cs : wg.cell? ⟨S0, 0, none⟩ = some (.bool sb) := by simp [World.cell?, HG.out.z]
  have fs : wg.frozen? ⟨S0, 0, none⟩ = false := by simp [World.frozen?, HG.out.z]
  have ls : S0 < wg.heap.size := (Array.getElem?_eq_some_iff.1 HG.out.z).1
  have cb : wg.cell? ⟨B0, 0, none⟩ = some (vb) := by simp [World.cell?, HG.out.b]
  have fb : wg.frozen? ⟨B0, 0, none⟩ = false := by simp [World.frozen?, HG.out.b]
  have lb : B0 < wg.heap.size := (Array.getElem?_eq_some_iff.1 HG.out.b).1
  have hone : ([36] : List UInt8).length = 1 := rfl
  go_wp2_with (at_builtin; refine wpList_append_str_mv rfl _ _ 23 9 rfl w.heap.size 5 i1 Tryd.underlying23 Tryd.underlying9 hj hy0 hy1 hy2 vb buf.length (byteCells buf) rfl HG.out.br (txt ([36])) (congrArg Value.string h36e) (by unfold maxLen; rw [txt_size]; skip; omega) (by rw [txt_size]; skip; omega) HG.out.bw.size ?_)
  intro vN2 wN2 hoN hgN hmN
  obtain ⟨aN2, mN2, cN2, rfl⟩ := owns_form hoN
  obtain ⟨e0, e1, e2, hPN⟩ := PV.addBuf HK.out HG.out hgN hoN hmN
  have HB := Lib.hid hPN
  clear hPN hoN hgN hmN
  clear cg fg lg ct ft lt cs fs ls cb fb lb
  go_upto_region 125 with fail
  generalize wN2.setCell ⟨B0, 0, none⟩ (Value.slice aN2 mN2 cN2) = wb at *
  clear e0 e1 e2
  generalize Value.slice aN2 mN2 cN2 = vN2 at *
  go_upto_region 127 with fail
  go_wp2
  (try refine hK _ _ ?_)
  refine Handed.intro gk (by omega) ?_
  exact ⟨_, args, (buf ++ [36]), 1, _, _, true, _, _, _, 0, p ++ [36], rest, vN2, rfl, ⟨⟨rfl, rfl, rfl, rfl, rfl, rfl, rfl, rfl, rfl, rfl, rfl, rfl, rfl, rfl, rfl, rfl, rfl, rfl, rfl, rfl, (by show Value.int _ _ = Value.int _ _; first | rfl | go_num), rfl⟩, HL2.out, by (have := HPA.out; first | omega | (simp <;> omega)), by (have := HPA.out; first | omega | (simp <;> omega)), by (have := HPA.out; first | omega | (simp <;> omega)), by (have := HPA.out; first | omega | (simp <;> omega)), by (have := HPA.out; first | omega | (simp <;> omega)), by (have := HPA.out; first | omega | (simp <;> omega)), (fun h => absurd h (by omega)), HB.out⟩, HRN.out, by omega⟩

section
variable {w wr w2 : World} {A0 B0 G0 T0 S0 I0 pos J0 jp : Nat} {T TJ : ByteArray} {vb vk v' : Value} {args : List (List UInt8)} {buf bt : List UInt8} {got : Nat} {tq sb : Bool}
/-- Another range goes on. -/
theorem PV.nextJ (h : PV w A0 B0 G0 T0 S0 I0 T pos vb vk args buf bt got tq sb wr) (hJ : wr.heap[J0]? = some (.stringIter TJ jp)) (hn : w.heap.size ≤ J0) (hne : I0 ≠ J0) (jp' : Nat) :
    PV w A0 B0 G0 T0 S0 I0 T pos vb vk args buf bt got tq sb (wr.iterAt J0 TJ jp') ∧ (wr.iterAt J0 TJ jp').heap[J0]? = some (.stringIter TJ jp') := by
  have o : ∀ x, x ≠ J0 → (wr.iterAt J0 TJ jp').heap[x]? = wr.heap[x]? := fun x hx => iterAt_other wr J0 x TJ jp' hx
  obtain ⟨va, hA, har⟩ := h.a
  have c : ∀ {x : Nat} {C : Array Value} {t : TypeId} {m : Nat × Nat}, wr.heap[x]? = some (.cells C t m) → (wr.iterAt J0 TJ jp').heap[x]? = some (.cells C t m) := fun q => by
    rw [o _ (iter_ne hJ q).symm]; exact q
  exact ⟨⟨c h.g, c h.t, c h.z, c h.b, owns_keep h.br (fun x hx => o x (owns_iter h.br hJ x hx)), ⟨va, c hA, owns_keep har (fun x hx => o x (owns_iter har hJ x hx))⟩, owns_keep h.kr (fun x hx => o x (owns_iter h.kr hJ x hx)), h.sep, below_iterAt h.bw hn TJ jp', by rw [o _ hne]; exact h.it, h.n, h.nb⟩, iterAt_heap wr J0 TJ _ jp' hJ⟩
theorem PV.keepJ (h : PV w A0 B0 G0 T0 S0 I0 T pos vb vk args buf bt got tq sb wr) (hJ : wr.heap[J0]? = some (.stringIter TJ jp)) (hg : wr.grownBy w2 vb.ownBlock) : (w2.setCell ⟨B0, 0, none⟩ v').heap[J0]? = some (.stringIter TJ jp) := by
  rw [Below.heap_setCell _ _ _ _ (iter_ne hJ h.b), hg.block J0 (Array.getElem?_eq_some_iff.1 hJ).1 (fun e => owns_iter h.br hJ _ e.symm rfl)]
  exact hJ
theorem PV.keepJG (h : PV w A0 B0 G0 T0 S0 I0 T pos vb vk args buf bt got tq sb wr) (hJ : wr.heap[J0]? = some (.stringIter TJ jp)) (v : Value) : (wr.setCell ⟨G0, 0, none⟩ v).heap[J0]? = some (.stringIter TJ jp) := by
  rw [Below.heap_setCell _ _ _ _ (iter_ne hJ h.g)]
  exact hJ
end
theorem pen_at {nm rest : List UInt8} {n : Nat} (h : At nm rest n) (hs : ∀ b ∈ nm, simB b = true) (h0 : nm ≠ []) (hl : rest.length ≤ 1000) (w : World) (hN : Nt w) :
    Calls Tryd.prog 33 #[.string (txt rest)] w fun e w' => e = .returned (.tuple #[.string (txt nm), .int .i64 n, .bool true]) ∧ Below w.heap.size w w' := by
  rcases h with ⟨rfl, t, rfl, ht⟩ | ⟨rfl, t, rfl⟩
  · exact pen_bare nm t hs h0 ht (by omega) w hN
  · have h2 := pen_brace nm t hs (by simp at hl; omega) w hN
    rw [show ((nm.length + 2 : Nat) : Int) = (nm.length : Int) + 2 by omega]
    exact h2
set_option maxHeartbeats 12800000 in
set_option maxRecDepth 100000 in
theorem v_var {c : Code} (hc : Tryd.f26.body.bind loopOf = some c) {w : World} {l : List UInt8} {pp bx ob ocap A0 B0 G0 T0 S0 I0 : Nat} {nm val : List UInt8} {A : List (List UInt8)} (X : Cv w l pp bx ob ocap A0 B0 G0 T0 S0 nm val)
  {us : List Value} {args : List (List UInt8)} {buf : List UInt8} {got n : Nat} {tq sb ad : Bool} {i sk : Int} {p rest : List UInt8} {vb : Value} {wr : World}
  (H : Rv w l pp bx A0 B0 G0 T0 S0 I0 us args buf got tq sb false ad i sk (0) p (36 :: rest) vb wr)
  (hat : At nm rest n)
  (hRn : Rn nm val args (buf ++ val) 1 false n rest A) {gk0 : Nat} (hg : rest.length + 1 < gk0) {K : Act → World → Prop} {Q : Exit → Act → World → Prop}
  (hK : ∀ a' w', Handed (RIv w l pp bx A0 B0 G0 T0 S0 I0 nm val A) gk0 a' w' → K a' w') :
  c.wp Tryd.prog (Exit.then K Q) ⟨us.toArray, []⟩ wr := by
  have h7 : (36 : UInt8).toNat < 128 := by decide
  have hcc : Tryd.f26.body.bind loopOf = some _ := rfl
  rw [hc] at hcc
  cases hcc
  obtain ⟨i1, hj, hy0, hy1, hy2⟩ := info_parts Tryd.infoByte
  obtain ⟨hl, hv, hpp, hc0, hE0, k, hoc, ho0, ho1, hnt, hve, hvb, hns, hne⟩ := X
  have HK := Lib.hid k
  obtain ⟨fr, he, hgot, hargs, hbuf, hi0, hi1, hs0, hs1, hp⟩ := H
  obtain ⟨hn, s0, s1, s6, s7, s8, s9, s10, s11, s12, s13, s14, s15, s16, s17, s18, s19, s20, s21, s22, s23, s50⟩ := fr
  rw [lit_all us hn, s0, s1, s6, s7, s8, s9, s10, s11, s12, s13, s14, s15, s16, s17, s18, s19, s20, s21, s22, s23, s50]
  clear hn s0 s1 s6 s7 s8 s9 s10 s11 s12 s13 s14 s15 s16 s17 s18 s19 s20 s21 s22 s23 s50
  obtain ⟨go, rfl⟩ : ∃ m, gk0 = m + 1 := ⟨gk0 - 1, by omega⟩
  have hpl : p.length + 1 + rest.length ≤ 1000 := by rw [he] at hl; simp only [List.length_append, List.length_cons] at hl; omega
  clear hl
  have hit := hp.it
  have hnx : ∀ ty, (Instr.next (.pointer (some ⟨I0, 0, none⟩)) true ty).run Tryd.prog wr = .ok (.tuple #[.bool true, .int .i64 p.length, .int .i32 36]) (wr.iterAt I0 (txt l) (p ++ [(36 : UInt8)]).length) := fun ty => by
    have h := next_part wr I0 p [(36 : UInt8)] rest ((36 : UInt8)).toNat (by rw [show p ++ ([(36 : UInt8)] ++ rest) = l from he.symm]; exact hit) (by simp) (decode7 _ _ h7) ty
    rw [show p ++ ([(36 : UInt8)] ++ rest) = l from he.symm] at h
    exact h
  have hP2 := hp.next (p ++ [(36 : UInt8)]).length
  have HP2 := Lib.hid hP2
  have HL2 : Hid (l = (p ++ [(36 : UInt8)]) ++ rest) := by show _ = _; rw [he, List.append_assoc]; rfl
  generalize wr.iterAt I0 (txt l) (p ++ [(36 : UInt8)]).length = wi at *
  clear hp hit hP2 he
  have hbw := HP2.out.bw
  have hbk := hbw.block pp hpp
  have k0 : wi.cell? ⟨pp, 0, none⟩ = some (.bool true) := (World.cell?_of_block hbk).trans hc0
  have HE2 : Hid (Ex pp [] wi) := hE0.below hbw
  have HB2 := Lib.hid hbw
  clear hbw hbk hE0 hc0 hc
  have cg : wi.cell? ⟨G0, 0, none⟩ = some (.int .i64 got) := by simp [World.cell?, HP2.out.g]
  have fg : wi.frozen? ⟨G0, 0, none⟩ = false := by simp [World.frozen?, HP2.out.g]
  have lg : G0 < wi.heap.size := (Array.getElem?_eq_some_iff.1 HP2.out.g).1
  have ct : wi.cell? ⟨T0, 0, none⟩ = some (.bool tq) := by simp [World.cell?, HP2.out.t]
  have ft : wi.frozen? ⟨T0, 0, none⟩ = false := by simp [World.frozen?, HP2.out.t]
  have lt : T0 < wi.heap.size := (Array.getElem?_eq_some_iff.1 HP2.out.t).1
  have cs : wi.cell? ⟨S0, 0, none⟩ = some (.bool sb) := by simp [World.cell?, HP2.out.z]
  have fs : wi.frozen? ⟨S0, 0, none⟩ = false := by simp [World.frozen?, HP2.out.z]
  have ls : S0 < wi.heap.size := (Array.getElem?_eq_some_iff.1 HP2.out.z).1
  have cb : wi.cell? ⟨B0, 0, none⟩ = some (vb) := by simp [World.cell?, HP2.out.b]
  have fb : wi.frozen? ⟨B0, 0, none⟩ = false := by simp [World.frozen?, HP2.out.b]
  have lb : B0 < wi.heap.size := (Array.getElem?_eq_some_iff.1 HP2.out.b).1
  have HPA : Hid ((p ++ [(36 : UInt8)]).length = p.length + 1) := by show _ = _; simp
  have HRN := Lib.hid hRn
  clear hRn
  have hsk : ¬ (p.length : Int) < sk := by omega
  clear hs0 hs1
  have CX := Lib.hid (excl_any pp [] (36) wi (by simp) HE2.out)
  have CS := Lib.hid (space_any (36) wi)
  rw [show isSp (36) = false from by decide] at CS
  rw [show ([] : List Nat).any (· == (36)) = false from rfl] at CX
  have hlr : l.drop (p.length + 1) = rest := by
    rw [HL2.out, List.drop_left' HPA.out]
  have hll : l.length = p.length + 1 + rest.length := by rw [HL2.out, List.length_append, HPA.out]
  have hsl : ∀ W, (Instr.slice 9 (.string (txt l)) (some (.int .i64 ((p.length : Int) + 1))) none none).run Tryd.prog W = .ok (.string (txt rest)) W := fun W => by
    rw [show (p.length : Int) + 1 = ((p.length + 1 : Nat) : Int) by omega, slice_tail l (p.length + 1) (by omega) W, hlr]
  have hnl : n ≤ rest.length := by rcases hat with ⟨rfl, t, e, _⟩ | ⟨rfl, t, e⟩ <;> rw [e] <;> simp <;> omega
  have hnt2 : Nt wi := hnt.below HB2.out
  have CP := Lib.hid (pen_at hat hns hne (by omega) wi hnt2)
  have CG : Hid (∀ W, Below w.heap.size w W → Calls Tryd.prog 28 #[.string (txt nm), .pointer (some ⟨bx, 0, none⟩)] W fun e w' => e = .returned (.string (txt val)) ∧ Below W.heap.size W w') := fun W hb => by
    have h := getenv_any bx ob ocap nm nm val W ((hb.cell (World.block_lt_of_cell? w _ hoc)).trans hoc) ((hb.cell (World.block_lt_of_cell? w _ ho0)).trans ho0) ((hb.cell (World.block_lt_of_cell? w _ ho1)).trans ho1)
    rw [if_pos rfl] at h
    exact h
  have HVB := Lib.hid hvb
  have HVE := Lib.hid hve
  have h36e : Utf8.encode 36 = txt [36] := encode7 36 (by decide)
  clear hlr hll hat hns hne hnt hnt2 hoc ho0 ho1 hvb hve
  go_upto_region 50 with fail
  refine CX.out.mono ?_
  rintro e wx ⟨rfl, hwx⟩
  obtain rfl := hwx.symm
  go_upto_region 50 with fail
  refine CS.out.mono ?_
  rintro e wx ⟨rfl, hwx⟩
  obtain rfl := hwx.symm
  go_upto_region 106 with fail
  go_wp2_with fail
  refine CP.out.mono ?_
  rintro e w1 ⟨rfl, hb1⟩
  have HP3 := Lib.hid (HP2.out.below hb1)
  clear hb1 cg fg lg ct ft lt cs fs ls cb fb lb k0
  go_upto_region 109 with fail
  go_wp2_with fail
  refine (CG.out w1 HP3.out.bw).mono ?_
  rintro e w2 ⟨rfl, hb2⟩
  have HP4 := Lib.hid (HP3.out.below hb2)
  clear hb2
  go_upto_region 112 with fail
  go_wp2_with fail
  have hJ0 : (w2.iter (txt val) 0).heap[w2.heap.size]? = some (.stringIter (txt val) 0) := World.iter_heap _ _ _
  have hJn : w.heap.size ≤ w2.heap.size := HP4.out.bw.size
  have hJI : I0 ≠ w2.heap.size := by have := (Array.getElem?_eq_some_iff.1 HP4.out.it).1; omega
  have HP5 := Lib.hid (HP4.out.below (w2 := w2.iter (txt val) 0) (by rw [show w2.iter (txt val) 0 = w2.alloc (.stringIter (txt val) 0) from rfl]; exact (Below.refl _ _).alloc (Nat.le_refl _) _))
  generalize w2.iter (txt val) 0 = w3 at *
  generalize w2.heap.size = J0 at *
  clear hnx
  rename World => v9
  go_loopg [35] (val.length + 1) (fun gk v35 wr => ∃ (pre post : List UInt8) (vb' : Value) (got' : Nat), Hid (val = pre ++ post) ∧ post.length < gk ∧ Hid (pre ≠ [] → got' = 1) ∧ wr.heap[J0]? = some (.stringIter (txt val) pre.length) ∧ Hid (PV w A0 B0 G0 T0 S0 I0 (txt l) (p ++ [36]).length vb' (.slice none 0 0) args (buf ++ pre) [] got' tq sb wr))
  case atStart => exact ⟨[], val, vb, got, rfl, by omega, fun h => absurd rfl h, hJ0, (by rw [List.append_nil]; exact HP5.out)⟩
  case round =>
    obtain ⟨pre, post, vb1, got1, HVP, hgk, HG1, hJ, HP6⟩ := hrel
    obtain ⟨b2, hb2⟩ : ∃ b2, buf ++ pre = b2 := ⟨_, rfl⟩
    have hbl : b2.length ≤ buf.length + pre.length := by rw [← hb2]; simp
    have HB2E := Lib.hid hb2
    rw [hb2] at HP6
    clear hb2
    have hvl : val.length = pre.length + post.length := by rw [HVP.out]; simp
    cases post with
    | nil =>
      have hps : ¬ pre.length < (txt val).size := by rw [txt_size, hvl]; simp
      have hnx2 := fun ty => @run_next_end_at Tryd.prog wr J0 _ _ ty hJ hps
      have hpv : pre = val := by rw [HVP.out, List.append_nil]
      subst hpv
      obtain rfl := HG1.out HVE.out
      clear hps
      have cg : wr.cell? ⟨G0, 0, none⟩ = some (.int .i64 1) := by simp [World.cell?, HP6.out.g]
      have fg : wr.frozen? ⟨G0, 0, none⟩ = false := by simp [World.frozen?, HP6.out.g]
      have lg : G0 < wr.heap.size := (Array.getElem?_eq_some_iff.1 HP6.out.g).1
      have ct : wr.cell? ⟨T0, 0, none⟩ = some (.bool tq) := by simp [World.cell?, HP6.out.t]
      have ft : wr.frozen? ⟨T0, 0, none⟩ = false := by simp [World.frozen?, HP6.out.t]
      have lt : T0 < wr.heap.size := (Array.getElem?_eq_some_iff.1 HP6.out.t).1
      have cs : wr.cell? ⟨S0, 0, none⟩ = some (.bool sb) := by simp [World.cell?, HP6.out.z]
      have fs : wr.frozen? ⟨S0, 0, none⟩ = false := by simp [World.frozen?, HP6.out.z]
      have ls : S0 < wr.heap.size := (Array.getElem?_eq_some_iff.1 HP6.out.z).1
      have cb : wr.cell? ⟨B0, 0, none⟩ = some (vb1) := by simp [World.cell?, HP6.out.b]
      have fb : wr.frozen? ⟨B0, 0, none⟩ = false := by simp [World.frozen?, HP6.out.b]
      have lb : B0 < wr.heap.size := (Array.getElem?_eq_some_iff.1 HP6.out.b).1
      have HF := Lib.hid (HP6.out.setS HK.out true)
      rw [HB2E.out] at HRN
      go_wp2
      (try refine hK _ _ ?_)
      refine Handed.intro go (by omega) ?_
      exact ⟨_, args, b2, 1, _, _, false, _, _, _, n, p ++ [36], rest, vb1, rfl, ⟨⟨rfl, rfl, rfl, rfl, rfl, rfl, rfl, rfl, rfl, rfl, rfl, rfl, rfl, rfl, rfl, rfl, rfl, rfl, rfl, rfl, (by show Value.int _ _ = Value.int _ _; first | rfl | go_num), rfl⟩, HL2.out, by (have := HPA.out; first | omega | (simp <;> omega)), by (have := HPA.out; first | omega | (simp <;> omega)), by (have := HPA.out; first | omega | (simp <;> omega)), by (have := HPA.out; first | omega | (simp <;> omega)), by (have := HPA.out; first | omega | (simp <;> omega)), by (have := HPA.out; first | omega | (simp <;> omega)), (fun _ => by (have := HPA.out; first | omega | (simp <;> omega))), HF.out⟩, HRN.out, by omega⟩
    | cons b post =>
      have hbb := HVB.out b (by rw [HVP.out]; simp)
      have hnx2 : ∀ ty, (Instr.next (.pointer (some ⟨J0, 0, none⟩)) true ty).run Tryd.prog wr = .ok (.tuple #[.bool true, .int .i64 pre.length, .int .i32 b.toNat]) (wr.iterAt J0 (txt val) (pre ++ [b]).length) := fun ty => by
        have h := next_part wr J0 pre [b] post b.toNat (by rw [show pre ++ ([b] ++ post) = val from HVP.out.symm]; exact hJ) (by simp) (decode7 _ _ hbb.2) ty
        rw [show pre ++ ([b] ++ post) = val from HVP.out.symm] at h
        exact h
      obtain ⟨hP7, hJ7⟩ := HP6.out.nextJ hJ hJn hJI (pre ++ [b]).length
      have HP7 := Lib.hid hP7
      generalize wr.iterAt J0 (txt val) (pre ++ [b]).length = wn at *
      clear hP7 hJ HP6
      obtain ⟨gk2, rfl⟩ : ∃ m, gk = m + 1 := ⟨gk - 1, by omega⟩
      have CS2 := Lib.hid (space_any b.toNat wn)
      rw [show isSp b.toNat = false from by (unfold isSp; simp; omega)] at CS2
      rw [List.length_cons] at hgk hvl
      have cg : wn.cell? ⟨G0, 0, none⟩ = some (.int .i64 got1) := by simp [World.cell?, HP7.out.g]
      have fg : wn.frozen? ⟨G0, 0, none⟩ = false := by simp [World.frozen?, HP7.out.g]
      have lg : G0 < wn.heap.size := (Array.getElem?_eq_some_iff.1 HP7.out.g).1
      have ct : wn.cell? ⟨T0, 0, none⟩ = some (.bool tq) := by simp [World.cell?, HP7.out.t]
      have ft : wn.frozen? ⟨T0, 0, none⟩ = false := by simp [World.frozen?, HP7.out.t]
      have lt : T0 < wn.heap.size := (Array.getElem?_eq_some_iff.1 HP7.out.t).1
      have cs : wn.cell? ⟨S0, 0, none⟩ = some (.bool sb) := by simp [World.cell?, HP7.out.z]
      have fs : wn.frozen? ⟨S0, 0, none⟩ = false := by simp [World.frozen?, HP7.out.z]
      have ls : S0 < wn.heap.size := (Array.getElem?_eq_some_iff.1 HP7.out.z).1
      have cb : wn.cell? ⟨B0, 0, none⟩ = some (vb1) := by simp [World.cell?, HP7.out.b]
      have fb : wn.frozen? ⟨B0, 0, none⟩ = false := by simp [World.frozen?, HP7.out.b]
      have lb : B0 < wn.heap.size := (Array.getElem?_eq_some_iff.1 HP7.out.b).1
      go_wp2_with fail
      refine CS2.out.mono ?_
      rintro e wx ⟨rfl, hwx⟩
      obtain rfl := hwx.symm
      go_upto_region 117 with fail
      have hone : ([b] : List UInt8).length = 1 := rfl
      go_wp2_with (at_builtin; refine wpList_append_str_mv rfl _ _ 23 9 rfl w.heap.size 5 i1 Tryd.underlying23 Tryd.underlying9 hj hy0 hy1 hy2 vb1 b2.length (byteCells b2) rfl HP7.out.br (txt ([b])) (congrArg Value.string (encode7 b hbb.2)) (by unfold maxLen; rw [txt_size]; skip; omega) (by rw [txt_size]; skip; omega) HP7.out.bw.size ?_)
      intro vN2 wN2 hoN hgN hmN
      obtain ⟨aN2, mN2, cN2, rfl⟩ := owns_form hoN
      obtain ⟨e0, e1, e2, hPN⟩ := PV.addBuf HK.out HP7.out hgN hoN hmN
      have HB := Lib.hid hPN
      have hJ8 := HP7.out.keepJ (v' := .slice aN2 mN2 cN2) hJ7 hgN
      clear hPN hoN hgN hmN hJ7
      clear cg fg lg ct ft lt cs fs ls cb fb lb
      go_upto_region 118 with fail
      generalize wN2.setCell ⟨B0, 0, none⟩ (Value.slice aN2 mN2 cN2) = wb at *
      clear e0 e1 e2
      generalize Value.slice aN2 mN2 cN2 = vN2 at *
      have cg : wb.cell? ⟨G0, 0, none⟩ = some (.int .i64 got1) := by simp [World.cell?, HB.out.g]
      have fg : wb.frozen? ⟨G0, 0, none⟩ = false := by simp [World.frozen?, HB.out.g]
      have lg : G0 < wb.heap.size := (Array.getElem?_eq_some_iff.1 HB.out.g).1
      have ct : wb.cell? ⟨T0, 0, none⟩ = some (.bool tq) := by simp [World.cell?, HB.out.t]
      have ft : wb.frozen? ⟨T0, 0, none⟩ = false := by simp [World.frozen?, HB.out.t]
      have lt : T0 < wb.heap.size := (Array.getElem?_eq_some_iff.1 HB.out.t).1
      have cs : wb.cell? ⟨S0, 0, none⟩ = some (.bool sb) := by simp [World.cell?, HB.out.z]
      have fs : wb.frozen? ⟨S0, 0, none⟩ = false := by simp [World.frozen?, HB.out.z]
      have ls : S0 < wb.heap.size := (Array.getElem?_eq_some_iff.1 HB.out.z).1
      have cb : wb.cell? ⟨B0, 0, none⟩ = some (vN2) := by simp [World.cell?, HB.out.b]
      have fb : wb.frozen? ⟨B0, 0, none⟩ = false := by simp [World.frozen?, HB.out.b]
      have lb : B0 < wb.heap.size := (Array.getElem?_eq_some_iff.1 HB.out.b).1
      have HJB : Hid (wb.heap[J0]? = some (.stringIter (txt val) (pre ++ [b]).length)) := hJ8
      have HGF := Lib.hid (HB.out.setG HK.out 1)
      have HJG : Hid ((wb.setCell ⟨G0, 0, none⟩ (.int .i64 1)).heap[J0]? = some (.stringIter (txt val) (pre ++ [b]).length)) := HB.out.keepJG HJB.out _
      clear hJ8
      go_wp2
      go_roundg gk2
      case rel => exact ⟨pre ++ [b], post, vN2, 1, (by show _ = _; rw [List.append_assoc]; exact HVP.out), by omega, (fun _ => rfl), HJG.out, (by rw [← List.append_assoc, HB2E.out]; exact HGF.out)⟩
      case measure => omega

end Go.Proofs.YthekblmkcfkboaaDoor
