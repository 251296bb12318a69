/- The law FnWordsAssigned: assignments are told apart: names of letters, ahead of the first word that is none. -/
import Derived.Test.YthekblmkcfkboaaDoorWAsg
namespace Go.Proofs.YthekblmkcfkboaaDoor
open Go.RowKit U8
open Go.Lib hiding intOf

theorem lineA_join : ∀ (l : List (List UInt8)) (i : Nat), lineA [] (i + 1) l = l.flatMap fun y => [32] ++ y
  | [], _ => rfl
  | w :: l, i => by
    show wordA [] (i + 1) w ++ lineA [] (i + 1 + 1) l = _
    rw [lineA_join l (i + 1), List.flatMap_cons]
    unfold wordA blankA
    rw [if_neg (by omega)]
    rfl
theorem join_run (l : List (List UInt8)) (hl : l ≠ []) (h : ∀ x ∈ l, x ≠ [] ∧ ∀ b ∈ x, markB b = false) : runS false [] Sx.start (rns (joinA [32] l)) = some (l, -1) := by
  have h1 := line_run [] l hl h
  have e : lineA [] 0 l = joinA [32] l := by
    cases l with
    | nil => rfl
    | cons w l =>
      show wordA [] 0 w ++ lineA [] (0 + 1) l = w ++ l.flatMap fun y => [32] ++ y
      rw [lineA_join]
      rfl
  rw [← e]
  exact h1
theorem asg_run : runS false [] Sx.start (rns [65, 61, 98, 32, 99]) = some ([[65, 61, 98], [99]], -1) := by
  rw [rns_asc _ (by decide)]
  decide
/-- What the law asks of an assignment. -/
def goodE (x : List UInt8) : Prop := 1 ≤ ixE x ∧ simpleB (x.take (ixE x).toNat) = true ∧ letterB (x.getD 0 0) = true
theorem good_env {x : List UInt8} (h : goodE x) : envB x = true := by
  obtain ⟨h1, h2, h3⟩ := h
  unfold envB
  rw [Bool.and_eq_true]
  refine ⟨decide_eq_true (by omega), ?_⟩
  rw [List.all_eq_true]
  intro j hj
  have hjl := List.mem_range.1 hj
  unfold simpleB at h2
  rw [Bool.and_eq_true] at h2
  have hlt := ixE_lt x
  have hjx : j < x.length := by omega
  have hmem : x[j] ∈ x.take (ixE x).toNat := by
    have : (x.take (ixE x).toNat)[j]? = some x[j] := by rw [List.getElem?_take_of_lt hjl, List.getElem?_eq_getElem hjx]
    exact List.mem_of_getElem? this
  have hs := List.all_eq_true.1 h2.1 _ hmem
  have hgd : x.getD j 0 = x[j] := by simp [List.getD, List.getElem?_eq_getElem hjx]
  rw [hgd]
  by_cases hj0 : j = 0
  · subst hj0
    rw [hgd] at h3
    have h4 := of_decide_eq_true h3
    unfold okE
    rcases h4 with h4 | h4
    · rw [decide_eq_true h4]; simp
    · rw [decide_eq_true h4]; simp
  · unfold simB at hs
    rw [Bool.or_eq_true] at hs
    unfold okE
    rcases hs with h4 | h4
    · rcases of_decide_eq_true h4 with h4 | h4
      · rw [decide_eq_true h4]; simp
      · rw [decide_eq_true h4]; simp
    · rw [decide_eq_true (show 0 < j by omega), decide_eq_true (of_decide_eq_true h4)]; simp
theorem no_env {x : List UInt8} (h : x.any (· == 61) = false) : envB x = false := by
  have hix : ixE x = -1 := by
    rcases ixE_lt x with h1 | h1
    · by_cases hm : ixE x = -1
      · exact hm
      · exfalso
        have hg : -1 ≤ ixE x := Lib.indexByte_ge x 61
        obtain ⟨o, ho⟩ : ∃ o : Nat, ixE x = o := ⟨(ixE x).toNat, by omega⟩
        have h2 := (Lib.indexByte_some (l := x) (c := 61) ho).1
        have := List.any_eq_false.1 h 61 (List.mem_of_getElem? h2)
        simp at this
    · exact h1
  unfold envB
  rw [hix]
  rfl
theorem spl_words {vs : List (List UInt8)} {y : List UInt8} {l : List (List UInt8)} (h : ∀ x ∈ vs, goodE x) (hy : y.any (· == 61) = false) : splE true (vs ++ y :: l) = (vs, y :: l) := by
  induction vs with
  | nil => rw [List.nil_append, splE_no (no_env hy)]; rfl
  | cons x vs ih =>
    rw [List.cons_append, splE_env (good_env (h x (by simp))), ih (fun z hz => h z (by simp [hz]))]
theorem szs_append (a b : List (List UInt8)) : szs (a ++ b) = szs a + szs b := szs_app a b
theorem mem_len {l : List (List UInt8)} {x : List UInt8} (h : x ∈ l) : x.length ≤ szs l := by
  obtain ⟨k, hk⟩ := List.mem_iff_getElem?.1 h
  exact szs_le hk
theorem slice_head (x : List UInt8) (k : Nat) (hk : k ≤ x.length) (W : World) : (Instr.slice 9 (.string (txt x)) none (some (.int .i64 k)) none).run Tryd.prog W = .ok (.string (txt (x.take k))) W := by
  have hts := txt_size x
  rw [run_slice_string_h W 9 (txt x) Tryd.underlying9 .i64 k (by omega) (by omega), Int.toNat_natCast, txt_extract, List.drop_zero]
/-- The same as append_texts, of a row that begins at any place. -/
theorem append_rows {W : World} {ops : Array Oper} {rest : List Oper} {o : Oper} {a : Act} {Q : Exit → Act → World → Prop} (hw : Region.wanted o (yielded ops a.tmps) = true) (s x : Operand)
    (ho : o.op = .call { callee := .builtin .append, args := #[s, x], argTypes := #[22, 22] }) (base : Nat)
    (v : Value) (k1 k2 : List (List UInt8)) (hs : a.eval s = v) (hown : W.ownsRow base 9 1 v k1.length (strsV k1)) (g off c : Nat) (hx : a.eval x = .slice (some ⟨g, off, none⟩) k2.length c)
    (hnews : ∀ (j : Nat) (y : List UInt8), k2[j]? = some y → W.cell? ⟨g, off + j, none⟩ = some (.string (txt y))) (hl : k1.length + k2.length ≤ 1000000) (hbase : base ≤ W.heap.size)
    (h : ∀ v' w', w'.ownsRow base 9 1 v' (k1 ++ k2).length (strsV (k1 ++ k2)) → W.grownBy w' v.ownBlock → wpList Tryd.prog ops Q rest (a.put o.dst v') w') : wpList Tryd.prog ops Q (o :: rest) a W := by
  obtain ⟨i0, hi, hz0, hz1, hz2⟩ := info_parts Tryd.infoStr
  refine wpList_want hw fun K hK => wp_append_own _ s x 22 ho base 9 i0 (.string ⟨#[]⟩) 1 16 Tryd.underlying22 hi hz0 hz1 hz2 rfl (by decide) v k1.length (strsV k1) hs hown ⟨g, off, none⟩ k2.length c (strsV k2) hx (by simp [strsV])
    (by
      intro j u hu
      obtain ⟨y, hy, rfl⟩ : ∃ y, k2[j]? = some y ∧ u = .string (txt y) := by
        simp only [strsV, List.getElem?_map, Option.map_eq_some_iff] at hu
        obtain ⟨y, hy, rfl⟩ := hu
        exact ⟨y, hy, rfl⟩
      rw [← hnews j y hy]
      congr 1
      unfold Addr.add; split <;> simp_all)
    (by intro u hu; obtain ⟨z, _, rfl⟩ := List.mem_map.1 hu; rfl) (by unfold maxLen; omega) (by omega) hbase fun v' w' h1 h2 _ => hK _ _ (h v' w' ?_ h2)
  rw [List.length_append]
  show World.ownsRow _ _ _ _ _ _ (List.map _ _)
  rw [List.map_append]
  exact h1
set_option maxHeartbeats 6400000 in
theorem law_wordsAssigned (vs : List (List UInt8)) (v1 : Value) (l : List (List UInt8)) (v2 : Value) (w : World) (hT1 : Tx w v1 vs) (hm1 : vs.length ≤ 9223372036854775807) (hx1 : ∀ x ∈ vs, x.length ≤ 9223372036854775807)
    (hT2 : Tx w v2 l) (hm2 : l.length ≤ 9223372036854775807) (hx2 : ∀ x ∈ l, x.length ≤ 9223372036854775807) (hE : Er w) :
    Calls Tryd.prog 9 #[v1, v2] w fun e w' => e = .returned (.bool true) ∧ Below w.heap.size w w' := by
  have hbr := Below.refl w.heap.size w
  have CF1 := Lib.hid (fits_any vs v1 w hT1 hm1 hx1)
  have CF2 := Lib.hid (fits_any l v2 w hT2 hm2 hx2)
  have HT1 := Lib.hid hT1
  have HT2 := Lib.hid hT2
  obtain ⟨ao, cap0, hv, hcells⟩ := hT1
  have HX := Lib.hid hcells
  subst hv
  clear hcells
  obtain ⟨bo, bcap, hv, hcells⟩ := hT2
  have HY := Lib.hid hcells
  subst hv
  clear hcells
  cases hf1 : fitsB vs with
  | false =>
    rw [hf1] at CF1
    clear hf1
    go_enter Tryd.func9, Tryd.ntmps9
    go_wp2_with fail
    refine CF1.out.mono ?_
    rintro e wx ⟨rfl, hwx⟩
    obtain rfl := hwx.symm
    go_wp2
    go_ret
    exact ⟨rfl, hbr⟩
  | true =>
  rw [hf1] at CF1
  cases hf2 : fitsB l with
  | false =>
    rw [hf2] at CF2
    clear hf1 hf2
    go_enter Tryd.func9, Tryd.ntmps9
    go_wp2_with fail
    refine CF1.out.mono ?_
    rintro e wx ⟨rfl, hwx⟩
    obtain rfl := hwx.symm
    go_wp2_with fail
    refine CF2.out.mono ?_
    rintro e wx ⟨rfl, hwx⟩
    obtain rfl := hwx.symm
    go_wp2
    go_ret
    exact ⟨rfl, hbr⟩
  | true =>
  rw [hf2] at CF2
  have hsz1 := fits_sz hf1
  have hsz2 := fits_sz hf2
  clear hf1 hf2
  have CW0 := Lib.hid (wordsEnvs_any [65, 61, 98, 32, 99] (by decide) w hE _ _ asg_run (by decide) (by decide))
  have CB1 := Lib.hid fun W (h : Below w.heap.size w W) => bare_any vs _ W (HT1.out.below h) hsz1
  have CB2 := Lib.hid fun W (h : Below w.heap.size w W) => bare_any l _ W (HT2.out.below h) hsz2
  have HE := Lib.hid hE
  have hspl0 : splE true ([[65, 61, 98], [99]] : List (List UInt8)) = ([[65, 61, 98]], [[99]]) := by decide
  rw [hspl0] at CW0
  clear hE hspl0
  cases hb1 : bareB vs with
  | false =>
    rw [hb1] at CB1
    clear hb1
    go_enter Tryd.func9, Tryd.ntmps9
    go_wp2_with fail
    refine CF1.out.mono ?_
    rintro e wx ⟨rfl, hwx⟩
    obtain rfl := hwx.symm
    go_wp2_with fail
    refine CF2.out.mono ?_
    rintro e wx ⟨rfl, hwx⟩
    obtain rfl := hwx.symm
    go_wp2_with fail
    refine CW0.out.mono ?_
    rintro e w1 ⟨ve0, va0, rfl, hw1, ho1, ho2⟩
    obtain ⟨a1, c1, rfl⟩ := owns_slice ho1
    obtain ⟨a2, c2, rfl⟩ := owns_slice ho2
    clear ho1 ho2
    go_wp2_with fail
    refine (CB1.out w1 hw1).mono ?_
    rintro e w2 ⟨rfl, hb2⟩
    have hw2 := below_own hb2 hw1
    clear hb2 hw1
    go_wp2
    go_ret
    exact ⟨rfl, hw2⟩
  | true =>
  rw [hb1] at CB1
  cases hb2 : bareB l with
  | false =>
    rw [hb2] at CB2
    clear hb1 hb2
    go_enter Tryd.func9, Tryd.ntmps9
    go_wp2_with fail
    refine CF1.out.mono ?_
    rintro e wx ⟨rfl, hwx⟩
    obtain rfl := hwx.symm
    go_wp2_with fail
    refine CF2.out.mono ?_
    rintro e wx ⟨rfl, hwx⟩
    obtain rfl := hwx.symm
    go_wp2_with fail
    refine CW0.out.mono ?_
    rintro e w1 ⟨ve0, va0, rfl, hw1, ho1, ho2⟩
    obtain ⟨a1, c1, rfl⟩ := owns_slice ho1
    obtain ⟨a2, c2, rfl⟩ := owns_slice ho2
    clear ho1 ho2
    go_wp2_with fail
    refine (CB1.out w1 hw1).mono ?_
    rintro e w2 ⟨rfl, hb2⟩
    have hw2 := below_own hb2 hw1
    clear hb2 hw1
    go_wp2_with fail
    refine (CB2.out w2 hw2).mono ?_
    rintro e w3 ⟨rfl, hb3⟩
    have hw3 := below_own hb3 hw2
    clear hb3 hw2
    go_wp2
    go_ret
    exact ⟨rfl, hw3⟩
  | true =>
  rw [hb2] at CB2
  obtain ⟨hp1, hz1⟩ := bare_parts hb1
  obtain ⟨hp2, hz2⟩ := bare_parts hb2
  clear hb1 hb2
  cases l with
  | nil =>
    go_enter Tryd.func9, Tryd.ntmps9
    go_wp2_with fail
    refine CF1.out.mono ?_
    rintro e wx ⟨rfl, hwx⟩
    obtain rfl := hwx.symm
    go_wp2_with fail
    refine CF2.out.mono ?_
    rintro e wx ⟨rfl, hwx⟩
    obtain rfl := hwx.symm
    go_wp2_with fail
    refine CW0.out.mono ?_
    rintro e w1 ⟨ve0, va0, rfl, hw1, ho1, ho2⟩
    obtain ⟨a1, c1, rfl⟩ := owns_slice ho1
    obtain ⟨a2, c2, rfl⟩ := owns_slice ho2
    clear ho1 ho2
    go_wp2_with fail
    refine (CB1.out w1 hw1).mono ?_
    rintro e w2 ⟨rfl, hb2⟩
    have hw2 := below_own hb2 hw1
    clear hb2 hw1
    go_wp2_with fail
    refine (CB2.out w2 hw2).mono ?_
    rintro e w3 ⟨rfl, hb3⟩
    have hw3 := below_own hb3 hw2
    clear hb3 hw2
    go_wp2
    go_ret
    exact ⟨rfl, hw3⟩
  | cons y l =>
  obtain ⟨L, hL⟩ : ∃ L, y :: l = L := ⟨_, rfl⟩
  have hlen : 0 < L.length := by rw [← hL]; simp
  have hy0 : L[0]? = some y := by rw [← hL]; rfl
  rw [hL] at HT2 HY CB2 CF2 hp2 hz2 hm2 hx2 hsz2
  rw [hL]
  have HL := Lib.hid hL
  clear hL
  obtain ⟨gy, oy, rfl, cy0⟩ := HY.out 0 y hy0
  rw [Nat.add_zero] at cy0
  have CYC := Lib.hid cy0
  have hyl := szs_le hy0
  have hll : (L.length : Int) ≠ 0 := by omega
  have hll2 : ((L.length : Int) == 0) = false := by simpa using hll
  have CH := Lib.hid fun W => has_any y 61 W (by omega)
  have hlen2 : (0 : Int) < L.length := by omega
  clear hy0 cy0 hll
  cases hyb : y.any (· == 61) with
  | true =>
    rw [hyb] at CH
    clear hyb
    go_enter Tryd.func9, Tryd.ntmps9
    go_wp2_with fail
    refine CF1.out.mono ?_
    rintro e wx ⟨rfl, hwx⟩
    obtain rfl := hwx.symm
    go_wp2_with fail
    refine CF2.out.mono ?_
    rintro e wx ⟨rfl, hwx⟩
    obtain rfl := hwx.symm
    go_wp2_with fail
    refine CW0.out.mono ?_
    rintro e w1 ⟨ve0, va0, rfl, hw1, ho1, ho2⟩
    obtain ⟨a1, c1, rfl⟩ := owns_slice ho1
    obtain ⟨a2, c2, rfl⟩ := owns_slice ho2
    clear ho1 ho2
    go_wp2_with fail
    refine (CB1.out w1 hw1).mono ?_
    rintro e w2 ⟨rfl, hb2⟩
    have hw2 := below_own hb2 hw1
    clear hb2 hw1
    go_wp2_with fail
    refine (CB2.out w2 hw2).mono ?_
    rintro e w3 ⟨rfl, hb3⟩
    have hw3 := below_own hb3 hw2
    clear hb3 hw2
    have cy : w3.cell? ⟨gy, oy, none⟩ = some (.string (txt y)) := (hw3.cell (World.block_lt_of_cell? w _ CYC.out)).trans CYC.out
    go_wp2_with fail
    refine (CH.out w3).mono ?_
    rintro e wx ⟨rfl, hwx⟩
    obtain rfl := hwx.symm
    go_wp2
    go_ret
    exact ⟨rfl, hw3⟩
  | false =>
  rw [hyb] at CH
  have HYB := Lib.hid hyb
  have HP1 := Lib.hid hp1
  have HP2 := Lib.hid hp2
  clear hyb hp1 hp2
  go_enter Tryd.func9, Tryd.ntmps9
  go_wp2_with fail
  refine CF1.out.mono ?_
  rintro e wx ⟨rfl, hwx⟩
  obtain rfl := hwx.symm
  go_wp2_with fail
  refine CF2.out.mono ?_
  rintro e wx ⟨rfl, hwx⟩
  obtain rfl := hwx.symm
  go_wp2_with fail
  refine CW0.out.mono ?_
  rintro e w1 ⟨ve0, va0, rfl, hw1, ho1, ho2⟩
  obtain ⟨a1, c1, rfl⟩ := owns_slice ho1
  obtain ⟨a2, c2, rfl⟩ := owns_slice ho2
  clear ho1 ho2
  go_wp2_with fail
  refine (CB1.out w1 hw1).mono ?_
  rintro e w2 ⟨rfl, hb2⟩
  have hw2 := below_own hb2 hw1
  clear hb2 hw1
  go_wp2_with fail
  refine (CB2.out w2 hw2).mono ?_
  rintro e w3 ⟨rfl, hb3⟩
  have hw3 := below_own hb3 hw2
  clear hb3 hw2
  have cy : w3.cell? ⟨gy, oy, none⟩ = some (.string (txt y)) := (hw3.cell (World.block_lt_of_cell? w _ CYC.out)).trans CYC.out
  go_wp2_with fail
  refine (CH.out w3).mono ?_
  rintro e wx ⟨rfl, hwx⟩
  obtain rfl := hwx.symm
  have HW3 := Lib.hid hw3
  clear hw3 cy
  go_wp2_with fail
  go_loopg [8, 10, 11, 62] (vs.length + 1) (fun gk v8 v10 v11 v62 wr => ∃ k : Nat, v62 = .int .i64 k ∧ k ≤ vs.length ∧ vs.length - k < gk ∧ Hid (Below w.heap.size w wr) ∧ Hid (wr.ownsRow w.heap.size 9 1 v8 (vs.take k).length (strsV (vs.take k))) ∧ Hid (∀ x ∈ vs.take k, goodE x))
  case atStart => exact ⟨0, rfl, by omega, by omega, HW3.out, World.ownsRow_nil _ _ _ _, fun x hx => by simp at hx⟩
  case round =>
    obtain ⟨k, rfl, hk, hg, HB, HO, HG⟩ := hrel
    by_cases hlt : k < vs.length
    · obtain ⟨g1, rfl⟩ : ∃ m, gk = m + 1 := ⟨gk - 1, by omega⟩
      have hx := List.getElem?_eq_getElem hlt
      have htk := List.take_succ_eq_append_getElem hlt
      generalize vs[k] = x at hx htk
      obtain ⟨g, o1, rfl, cx0⟩ := HX.out k x hx
      have cx : wr.cell? ⟨g, o1 + k, none⟩ = some (.string (txt x)) := (HB.out.cell (World.block_lt_of_cell? w _ cx0)).trans cx0
      have hxl := szs_le hx
      have hts := txt_size x
      have hxne := (HP1.out x (List.mem_of_getElem? hx)).1
      have HTK := Lib.hid htk
      have CA := Lib.hid (at_any x wr (by omega))
      have hilt := ixE_lt x
      obtain ⟨i, hi⟩ : ∃ i, ixE x = i := ⟨_, rfl⟩
      rw [hi] at CA hilt
      have HI := Lib.hid hi
      clear hx htk cx0 hi
      by_cases hi1 : i < 1
      · clear hilt
        go_wp2_with fail
        refine CA.out.mono ?_
        rintro e wx ⟨rfl, hwx⟩
        obtain rfl := hwx.symm
        go_wp2
        go_ret
        exact ⟨rfl, HB.out⟩
      obtain ⟨n, rfl⟩ : ∃ n : Nat, i = n := ⟨i.toNat, by omega⟩
      have hnl : n ≤ x.length := by omega
      have hsl := fun W => slice_head x n hnl W
      have htkl : (x.take n).length ≤ 1000 := by rw [List.length_take]; omega
      have CS := Lib.hid (simple_any (x.take n) wr (by omega))
      cases hsb : simpleB (x.take n) with
      | false =>
        rw [hsb] at CS
        clear hsb hilt
        go_wp2_with fail
        refine CA.out.mono ?_
        rintro e wx ⟨rfl, hwx⟩
        obtain rfl := hwx.symm
        go_wp2_with fail
        refine CS.out.mono ?_
        rintro e wx ⟨rfl, hwx⟩
        obtain rfl := hwx.symm
        go_wp2
        go_ret
        exact ⟨rfl, HB.out⟩
      | true =>
      rw [hsb] at CS
      have hxp : 0 < x.length := List.length_pos_iff.2 hxne
      have hb0 := List.getElem?_eq_getElem hxp
      have hgd : x.getD 0 0 = x[0] := by simp [List.getD, List.getElem?_eq_getElem hxp]
      generalize x[0] = c at hb0 hgd
      have hby := run_byte x 0 c hb0 wr
      rw [show ((0 : Nat) : Int) = 0 from rfl] at hby
      have CL := Lib.hid (letter_any c wr)
      have HSB := Lib.hid hsb
      have HGD := Lib.hid hgd
      clear hb0 hgd hsb hxne
      cases hlb : letterB c with
      | false =>
        rw [hlb] at CL
        clear hlb hilt
        go_wp2_with fail
        refine CA.out.mono ?_
        rintro e wx ⟨rfl, hwx⟩
        obtain rfl := hwx.symm
        go_wp2_with fail
        refine CS.out.mono ?_
        rintro e wx ⟨rfl, hwx⟩
        obtain rfl := hwx.symm
        go_wp2_with fail
        refine CL.out.mono ?_
        rintro e wx ⟨rfl, hwx⟩
        obtain rfl := hwx.symm
        go_wp2
        go_ret
        exact ⟨rfl, HB.out⟩
      | true =>
      rw [hlb] at CL
      have HGX : Hid (goodE x) := by
        refine ⟨by rw [HI.out]; omega, by rw [HI.out, Int.toNat_natCast]; exact HSB.out, by rw [HGD.out]; exact hlb⟩
      obtain ⟨q, hqe⟩ : ∃ q, vs.take k = q := ⟨_, rfl⟩
      have hoq := HO.out
      rw [hqe] at hoq
      have HQE := Lib.hid hqe
      have HOA := Lib.hid (World.ownsRow.alloc hoq (.cells #[.string (txt x)] 9))
      have HWA := Lib.hid (HB.out.alloc HB.out.size (.cells #[.string (txt x)] 9))
      have htl : q.length ≤ 1000 := by rw [← hqe, List.length_take]; omega
      clear hqe hoq hlb hilt
      go_wp2_with fail
      refine CA.out.mono ?_
      rintro e wx ⟨rfl, hwx⟩
      obtain rfl := hwx.symm
      go_wp2_with fail
      refine CS.out.mono ?_
      rintro e wx ⟨rfl, hwx⟩
      obtain rfl := hwx.symm
      go_wp2_with fail
      refine CL.out.mono ?_
      rintro e wx ⟨rfl, hwx⟩
      obtain rfl := hwx.symm
      go_wp2_with (at_builtin; refine append_texts (by rfl) _ _ rfl w.heap.size _ q [x] rfl HOA.out wr.heap.size 1 rfl (one_str wr (txt x)) (by simp only [List.length_singleton]; omega) HWA.out.size ?_)
      intro v4 w5 ho5 hg5
      have hb5 : Below w.heap.size w w5 := HWA.out.grown hg5 HWA.out.size (fun z hz => (World.ownsRow.lt HOA.out z hz).1)
      have e5 : q ++ [x] = vs.take (k + 1) := by rw [HTK.out, HQE.out]
      have ho6 : w5.ownsRow w.heap.size 9 1 v4 (vs.take (k + 1)).length (strsV (vs.take (k + 1))) := by
        rw [← e5]
        first | exact ho5 | (rw [List.length_append]; show World.ownsRow _ _ _ _ _ _ (List.map _ _); rw [List.map_append]; exact ho5)
      have HO6 := Lib.hid ho6
      have HB5 := Lib.hid hb5
      have HG6 : Hid (∀ y ∈ vs.take (k + 1), goodE y) := by
        intro y hy
        rw [HTK.out] at hy
        rcases List.mem_append.1 hy with hy | hy
        · exact HG.out y hy
        · rw [List.mem_singleton] at hy; subst hy; exact HGX.out
      clear ho5 hg5 hb5 e5 ho6
      go_wp2
      go_roundg g1
      case rel => exact ⟨k + 1, by go_num, by omega, by omega, HB5.out, HO6.out, HG6.out⟩
      case measure => omega
    · have htk : vs.take k = vs := List.take_of_length_le (by omega)
      have ho := HO.out
      have hgood := HG.out
      rw [htk] at ho hgood
      have hws : ∀ x ∈ vs ++ L, x ≠ [] ∧ ∀ b ∈ x, markB b = false := fun x hx => by
        rcases List.mem_append.1 hx with hx | hx
        · exact HP1.out x hx
        · exact HP2.out x hx
      have hwne : vs ++ L ≠ [] := by
        intro h
        exact absurd (List.append_eq_nil_iff.1 h).2 (List.length_pos_iff.1 hlen)
      have hrun := join_run (vs ++ L) hwne hws
      have hspl : splE true (vs ++ L) = (vs, L) := by rw [← HL.out]; exact spl_words hgood HYB.out
      have hzz : szs (vs ++ L) = szs vs + szs L := szs_append vs L
      have hjl := joinA_len [32] (by simp) (vs ++ L)
      rw [List.length_append] at hjl
      have CW := Lib.hid fun W (hE : Er W) => wordsEnvs_any (joinA [32] (vs ++ L)) (by omega) W hE _ _ hrun (by rw [List.length_append]; omega) (fun x hx => by have := mem_len hx; omega)
      rw [hspl] at CW
      have HBw := Lib.hid HB.out
      have HOw := Lib.hid ho
      have hwa : Below w.heap.size w (wr.alloc (.cells #[] 9)) := HB.out.alloc HB.out.size _
      have hE0 : (wr.alloc (.cells #[] 9)).ownsRow wr.heap.size 9 1 (.slice (some ⟨wr.heap.size, 0, none⟩) 0 0) ([] : List (List UInt8)).length (strsV []) := World.ownsRow_made wr #[] 0 (Nat.le_refl _) (by unfold maxLen; omega) rfl
      have hwr : Below wr.heap.size wr (wr.alloc (.cells #[] 9)) := (Below.refl _ _).alloc (Nat.le_refl _) _
      have HWA := Lib.hid hwa
      have HWR := Lib.hid hwr
      have HE0 := Lib.hid hE0
      have hyc : ∀ W, Below w.heap.size w W → ∀ (j : Nat) (z : List UInt8), L[j]? = some z → W.cell? ⟨gy, oy + j, none⟩ = some (.string (txt z)) := fun W hW j z hj => by
        obtain ⟨g9, o9, e9, c9⟩ := HY.out j z hj
        cases e9
        exact (hW.cell (World.block_lt_of_cell? w _ c9)).trans c9
      have HYC := Lib.hid hyc
      have hv1 : vs.length ≤ 1000 := by omega
      have hv2 : L.length ≤ 1000 := by omega
      clear hrun hspl hws hwne hgood htk hwa hwr hE0 hyc HO HG hzz
      rcases ho.2 with ⟨rfl, h0⟩ | ⟨g, cap1, cur, rfl, _⟩
      · have hv0 : vs = [] := List.length_eq_zero_iff.1 h0
        subst hv0
        clear ho
        go_wp2_with (first | (at_builtin; refine append_none (by rfl) _ _ rfl wr.heap.size _ 0 [] rfl HE0.out 0 rfl ?_) | (at_builtin; refine append_rows (by rfl) _ _ rfl wr.heap.size _ [] L rfl HE0.out gy oy bcap rfl (HYC.out _ HWA.out) (by simp; omega) HWR.out.size ?_))
        intro v6 w6 ho6 hg6
        have hb6 : Below wr.heap.size wr w6 := HWR.out.grown hg6 HWR.out.size (fun z hz => (World.ownsRow.lt HE0.out z hz).1)
        have hx6 : Tx w6 v6 ([] ++ L) := by first | exact tx_own ho6 | (rw [List.nil_append]; exact tx_own ho6)
        have hw6 := HBw.out.trans (hb6.mono HBw.out.size)
        have HOE := Lib.hid (tx_own (owns_below HOw.out hb6))
        have HW6 := Lib.hid hw6
        have CJ := Lib.hid (joined_any ([] ++ L) [32] v6 w6 hx6 (by have h9 := szs_append [] L; rw [List.length_append]; first | omega | (simp at *; omega)) (by simp))
        clear ho6 hg6 hb6 hx6 hw6
        go_wp2_with fail
        refine CJ.out.mono ?_
        rintro e wx ⟨rfl, hwx⟩
        obtain rfl := hwx.symm
        go_wp2_with fail
        refine (CW.out _ (HE.out.below HW6.out)).mono ?_
        rintro e w7 ⟨ve, va, rfl, hb7, hoe, hoa⟩
        have hw7 := below_own hb7 HW6.out
        have HQ1 := Lib.hid (eq_texts [] [] ve _ w7 (tx_own hoe) (HOE.out.below hb7) (by first | omega | simp) (by first | omega | simp))
        have HOA := Lib.hid (tx_own hoa)
        have HW7 := Lib.hid hw7
        clear hb7 hoe hoa hw7
        go_wp2_with fail
        refine HQ1.out.mono ?_
        rintro e w8 ⟨rfl, hb8⟩
        have hw8 := below_own hb8 HW7.out
        have HQ2 := Lib.hid (eq_texts L L va _ w8 (HOA.out.below hb8) (HT2.out.below hw8) (by omega) (by omega))
        have HW8 := Lib.hid hw8
        clear hb8 hw8
        go_wp2_with fail
        refine HQ2.out.mono ?_
        rintro e w9 ⟨rfl, hb9⟩
        have HW9 := Lib.hid (below_own hb9 HW8.out)
        clear hb9
        go_wp2
        go_ret
        exact ⟨by simp, HW9.out⟩
      · clear ho
        go_wp2_with (at_builtin; refine append_texts (by rfl) _ _ rfl wr.heap.size _ [] vs rfl HE0.out g cap1 rfl (row_at HOw.out HWR.out) (by simp; omega) HWR.out.size ?_)
        intro v3 w5 ho3 hg3
        (try rw [List.nil_append] at ho3)
        have hb5 : Below wr.heap.size wr w5 := HWR.out.grown hg3 HWR.out.size (fun z hz => (World.ownsRow.lt HE0.out z hz).1)
        have HO3 := Lib.hid ho3
        have HB5 := Lib.hid hb5
        have HW5 := Lib.hid (HBw.out.trans (hb5.mono HBw.out.size))
        clear ho3 hb5 hg3
        go_wp2_with (at_builtin; refine append_rows (by rfl) _ _ rfl wr.heap.size v3 vs L rfl HO3.out gy oy bcap rfl (HYC.out _ HW5.out) (by omega) HB5.out.size ?_)
        intro v6 w6 ho6 hg6
        have hb6 : Below wr.heap.size wr w6 := HB5.out.grown hg6 HB5.out.size (fun z hz => (World.ownsRow.lt HO3.out z hz).1)
        have hx6 : Tx w6 v6 (vs ++ L) := by first | exact tx_own ho6 | exact tx_two ho6
        have hw6 := HBw.out.trans (hb6.mono HBw.out.size)
        have HOE := Lib.hid (tx_own (owns_below HOw.out hb6))
        have HW6 := Lib.hid hw6
        have CJ := Lib.hid (joined_any (vs ++ L) [32] v6 w6 hx6 (by have h9 := szs_append vs L; rw [List.length_append]; first | omega | (simp at *; omega)) (by simp))
        clear ho6 hg6 hb6 hx6 hw6
        go_wp2_with fail
        refine CJ.out.mono ?_
        rintro e wx ⟨rfl, hwx⟩
        obtain rfl := hwx.symm
        go_wp2_with fail
        refine (CW.out _ (HE.out.below HW6.out)).mono ?_
        rintro e w7 ⟨ve, va, rfl, hb7, hoe, hoa⟩
        have hw7 := below_own hb7 HW6.out
        have HQ1 := Lib.hid (eq_texts vs vs ve _ w7 (tx_own hoe) (HOE.out.below hb7) (by first | omega | simp) (by first | omega | simp))
        have HOA := Lib.hid (tx_own hoa)
        have HW7 := Lib.hid hw7
        clear hb7 hoe hoa hw7
        go_wp2_with fail
        refine HQ1.out.mono ?_
        rintro e w8 ⟨rfl, hb8⟩
        have hw8 := below_own hb8 HW7.out
        have HQ2 := Lib.hid (eq_texts L L va _ w8 (HOA.out.below hb8) (HT2.out.below hw8) (by omega) (by omega))
        have HW8 := Lib.hid hw8
        clear hb8 hw8
        go_wp2_with fail
        refine HQ2.out.mono ?_
        rintro e w9 ⟨rfl, hb9⟩
        have HW9 := Lib.hid (below_own hb9 HW8.out)
        clear hb9
        go_wp2
        go_ret
        exact ⟨by simp, HW9.out⟩

end Go.Proofs.YthekblmkcfkboaaDoor
