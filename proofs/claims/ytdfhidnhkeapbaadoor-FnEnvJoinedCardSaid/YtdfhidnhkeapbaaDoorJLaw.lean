/- FnEnvJoined: its walk. Conditions: the texts' sizes; the table unicode.properties. -/
import Derived.Test.YtdfhidnhkeapbaaDoorJUniq
namespace Go.Proofs.YtdfhidnhkeapbaaDoor
open Go.RowKit U8
open Go.Lib hiding intOf

theorem txt_data (b : ByteArray) : txt b.data.toList = b := by
  obtain ⟨a⟩ := b
  simp [txt]
theorem wpList_app_g {P : Program} {ops : Array Oper} {Q : Exit → Act → World → Prop} {a : Act} {w w' : World} {rest : List Oper} {o : Oper} {v : Value} (hw : Region.wanted o (yielded ops a.tmps) = true) (s x : Operand) (t : TypeId)
    (ho : o.op = .call { callee := .builtin .append, args := #[s, x], argTypes := #[t, t] }) (vs vx : Value) (hs : a.eval s = vs) (hx : a.eval x = vx)
    (hrun : (Builtin.append_ #[t, t] o.type #[vs, vx]).run P w = .ok v w') (h : wpList P ops Q rest (a.put o.dst v) w') : wpList P ops Q (o :: rest) a w := by
  refine wpList_step fun K hK => ?_
  simp only [hw, if_true]
  unfold Oper.wp execOp
  simp only [ho, resolve, invoke, builtin, Sem.run_bind, Sem.run_pure, Result.andThen_ok, List.map_toArray, List.map_cons, List.map_nil, hs, hx, hrun]
  exact hK _ _ h
set_option maxHeartbeats 1600000 in
set_option maxRecDepth 100000 in
theorem reads_any (w : World) (hT : Pt w) : Calls Tryd.prog 5 #[] w fun e w' => e = .returned (.bool true) ∧ Below w.heap.size w w' := by
  have C : Hid (Calls Tryd.prog 9 #[.string ⟨#[65, 61, 98]⟩] w (ReP [65, 61, 98] w)) := read_any [65, 61, 98] w (by
    intro x hx
    simp only [List.mem_cons, List.not_mem_nil, or_false] at hx
    unfold GoodB
    rcases hx with rfl | rfl | rfl <;> decide) (by simp) hT
  clear hT
  go_enter Tryd.func5, Tryd.ntmps5
  go_wp2_with fail
  refine C.out.mono ?_
  rintro e w1 ⟨⟨hn, _⟩ | ⟨ps, X, xo, xc, hs, rfl, hown, hX⟩, hb⟩
  · rw [pairs_ab] at hn; cases hn
  · rw [pairs_ab] at hs
    cases hs
    have hX1 : X = [([65], [98])] := by
      obtain ⟨hn, hm⟩ := sort_keys (mapOf_keys [([65], [98])]) hX
      have h1 : X.Perm [([65], [98])] := perm_of_mem hn (by simp) fun x => by rw [hm]; exact Iff.rfl
      exact List.perm_singleton.1 h1
    subst hX1
    obtain ⟨ao, cap, hv, _, hx⟩ := qx_own hown
    obtain ⟨g, o, hao, y0, y1⟩ := hx 0 _ rfl
    have hxo : xo = some ⟨g, o, none⟩ := by
      have := hv.trans (by rw [hao])
      simp at this
      exact this.1
    subst hxo
    rw [Nat.zero_mul, Nat.add_zero] at y0 y1
    have HB := Lib.hid hb
    have y0' : w1.cell? ⟨g, o, none⟩ = some (.string ⟨#[65]⟩) := y0
    have y1' : w1.cell? ⟨g, o + 1, none⟩ = some (.string ⟨#[98]⟩) := y1
    clear hown hX hv hx hao hb y0 y1 C
    go_wp2
    go_ret
    exact ⟨rfl, HB.out⟩
set_option maxHeartbeats 12800000 in
set_option maxRecDepth 100000 in
theorem law_envJoined (a0 a1 : ByteArray) (w : World) (y0 : a0.size ≤ 140737488351232) (y1 : a1.size ≤ 140737488351232) (hP : Pt w) :
    Calls Tryd.prog 3 #[.string a0, .string a1] w fun e w' => e = .returned (.bool true) ∧ Below w.heap.size w w' := by
  obtain ⟨a, rfl⟩ : ∃ l, a0 = txt l := ⟨a0.data.toList, (txt_data a0).symm⟩
  obtain ⟨b, rfl⟩ : ∃ l, a1 = txt l := ⟨a1.data.toList, (txt_data a1).symm⟩
  have hza := txt_size a
  have hzb := txt_size b
  by_cases hbig : (2147483647 : Int) < a.length
  · go_enter Tryd.func3, Tryd.ntmps3
    go_wp2
    go_ret
    exact ⟨rfl, Below.refl _ _⟩
  by_cases hbig2 : (2147483647 : Int) < b.length
  · go_enter Tryd.func3, Tryd.ntmps3
    go_wp2
    go_ret
    exact ⟨rfl, Below.refl _ _⟩
  have CR := Lib.hid (reads_any w hP)
  have HP := Lib.hid hP
  clear hP
  go_enter Tryd.func3, Tryd.ntmps3
  go_wp2_with fail
  refine CR.out.mono ?_
  rintro e w1 ⟨rfl, hb1⟩
  have HB1 := Lib.hid hb1
  have HT1 := Lib.hid (HP.out.below hb1)
  have hs1 := hb1.size
  clear hb1 CR HP
  obtain ⟨p1, hp1⟩ : ∃ q, plB a = q := ⟨_, rfl⟩
  obtain ⟨p2, hp2⟩ : ∃ q, plB b = q := ⟨_, rfl⟩
  obtain ⟨p3, hp3⟩ : ∃ q, partedB a = q := ⟨_, rfl⟩
  obtain ⟨p4, hp4⟩ : ∃ q, partedB b = q := ⟨_, rfl⟩
  obtain ⟨p5, hp5⟩ : ∃ q, meanB a = q := ⟨_, rfl⟩
  obtain ⟨p6, hp6⟩ : ∃ q, meanB b = q := ⟨_, rfl⟩
  have C1 := Lib.hid (plain_any a w1 (by omega))
  have C2 := Lib.hid (plain_any b w1 (by omega))
  have C3 := Lib.hid (parted_any a w1 (by omega))
  have C4 := Lib.hid (parted_any b w1 (by omega))
  have C5 := Lib.hid (mean_any a w1 (by omega))
  have C6 := Lib.hid (mean_any b w1 (by omega))
  rw [hp1] at C1
  rw [hp2] at C2
  rw [hp3] at C3
  rw [hp4] at C4
  rw [hp5] at C5
  rw [hp6] at C6
  have H1 := Lib.hid hp1
  have H2 := Lib.hid hp2
  have H3 := Lib.hid hp3
  have H5 := Lib.hid hp5
  have H6 := Lib.hid hp6
  clear hp1 hp2 hp3 hp4 hp5 hp6
  go_wp2_with fail
  refine C1.out.mono ?_
  rintro e wd ⟨rfl, hwd⟩
  obtain rfl := hwd.symm
  cases p1 with
  | false =>
    go_wp2
    go_ret
    exact ⟨rfl, HB1.out⟩
  | true =>
  go_wp2_with fail
  refine C2.out.mono ?_
  rintro e wd ⟨rfl, hwd⟩
  obtain rfl := hwd.symm
  cases p2 with
  | false =>
    go_wp2
    go_ret
    exact ⟨rfl, HB1.out⟩
  | true =>
  go_wp2_with fail
  refine C3.out.mono ?_
  rintro e wd ⟨rfl, hwd⟩
  obtain rfl := hwd.symm
  cases p3 with
  | false =>
    go_wp2
    go_ret
    exact ⟨rfl, HB1.out⟩
  | true =>
  go_wp2_with fail
  refine C4.out.mono ?_
  rintro e wd ⟨rfl, hwd⟩
  obtain rfl := hwd.symm
  cases p4 with
  | false =>
    go_wp2
    go_ret
    exact ⟨rfl, HB1.out⟩
  | true =>
  go_wp2_with fail
  refine C5.out.mono ?_
  rintro e wd ⟨rfl, hwd⟩
  obtain rfl := hwd.symm
  cases p5 with
  | true =>
    go_wp2
    go_ret
    exact ⟨rfl, HB1.out⟩
  | false =>
  go_wp2_with fail
  refine C6.out.mono ?_
  rintro e wd ⟨rfl, hwd⟩
  obtain rfl := hwd.symm
  cases p6 with
  | true =>
    go_wp2
    go_ret
    exact ⟨rfl, HB1.out⟩
  | false =>
  clear C1 C2 C3 C4 C5 C6
  obtain ⟨hga, hla⟩ := good_of H1.out H5.out
  obtain ⟨hgb, hlb⟩ := good_of H2.out H6.out
  have HGA := Lib.hid hga
  have HGB := Lib.hid hgb
  have CA := Lib.hid (read_any a w1 hga (by omega) HT1.out)
  clear hga hgb
  go_wp2_with fail
  refine CA.out.mono ?_
  rintro e w2 ⟨hra, hb2⟩
  have CB := Lib.hid (read_any b w2 HGB.out (by omega) (HT1.out.below hb2))
  have HT2 := Lib.hid (HT1.out.below hb2)
  have HB2 := Lib.hid (HB1.out.trans (hb2.mono hs1))
  have hs2 := HB2.out.size
  have h12 := hb2.size
  rcases hra with ⟨hna, rfl⟩ | ⟨pa, X, xo, xc, hsa, rfl, hownX, hX⟩
  · clear hna hb2
    go_wp2_with fail
    refine CB.out.mono ?_
    rintro e w3 ⟨hrb, hb3⟩
    have HB3 := Lib.hid (HB2.out.trans (hb3.mono hs2))
    rcases hrb with ⟨_, rfl⟩ | ⟨pb, Y, yo, yc, _, rfl, _, _⟩
    all_goals
      clear hb3
      go_wp2
      go_ret
      exact ⟨rfl, HB3.out⟩
  have HSA := Lib.hid hsa
  have HOX := Lib.hid (rowAt_own hownX)
  have HXS := Lib.hid hX
  have hXl : X.length ≤ 4096 := by
    have h1 := pairs_le (a.length + 1) a (Nat.lt_succ_self _) pa hsa
    have h2 := mapOf_le pa
    have h3 := congrArg List.length hX.1
    rw [List.length_map, List.length_mergeSort, List.length_map] at h3
    omega
  clear hsa hownX hX hb2 CA
  go_wp2_with fail
  refine CB.out.mono ?_
  rintro e w3 ⟨hrb, hb3⟩
  have HB3 := Lib.hid (HB2.out.trans (hb3.mono hs2))
  have HT3 := Lib.hid (HT2.out.below hb3)
  have hs3 := HB3.out.size
  have HOX3 := Lib.hid (HOX.out.below hb3)
  rcases hrb with ⟨_, rfl⟩ | ⟨pb, Y, yo, yc, hsb, rfl, hownY, hY⟩
  · clear hb3
    go_wp2
    go_ret
    exact ⟨rfl, HB3.out⟩
  have HOY := Lib.hid (rowAt_own hownY)
  have hYl : Y.length ≤ 4096 := by
    have h1 := pairs_le (b.length + 1) b (Nat.lt_succ_self _) pb hsb
    have h2 := mapOf_le pb
    have h3 := congrArg List.length hY.1
    rw [List.length_map, List.length_mergeSort, List.length_map] at h3
    omega
  have hJ : pairsS (a ++ 10 :: b) = some (pa ++ pb) := by
    rw [pairs_append b (a.length + 1) a (Nat.lt_succ_self _) H3.out pa HSA.out, hsb]; rfl
  have HJ := Lib.hid hJ
  have HYS := Lib.hid hY
  have hgj : ∀ x ∈ a ++ 10 :: b, GoodB x := fun x hx => by
    rcases List.mem_append.1 hx with hx | hx
    · exact HGA.out x hx
    · rcases List.mem_cons.1 hx with rfl | hx
      · unfold GoodB; decide
      · exact HGB.out x hx
  have CJ0 := read_any (a ++ 10 :: b) w3 hgj (by rw [List.length_append, List.length_cons]; omega) HT3.out
  have hcat : (txt a ++ ⟨#[10]⟩ : ByteArray) ++ txt b = txt (a ++ 10 :: b) := by
    rw [show (⟨#[10]⟩ : ByteArray) = txt [10] from rfl, txt_append, txt_append, List.append_assoc]; rfl
  rw [← hcat] at CJ0
  have CJ := Lib.hid CJ0
  have q1 : (txt a ++ ⟨#[10]⟩ : ByteArray).size = a.length + 1 := by rw [show (⟨#[10]⟩ : ByteArray) = txt [10] from rfl, txt_append, txt_size, List.length_append]; rfl
  clear hb3 hsb hownY hY hJ hgj CJ0 hcat CB HT2 HT3 HB2
  go_wp2_with fail
  refine CJ.out.mono ?_
  rintro e w4 ⟨hrj, hb4⟩
  rcases hrj with ⟨hn, _⟩ | ⟨pj, Z, zo, zc, hsj, rfl, hownZ, hZ⟩
  · rw [HJ.out] at hn; cases hn
  rw [HJ.out] at hsj
  cases hsj
  have HB4 := Lib.hid (HB3.out.trans (hb4.mono hs3))
  have hs4 := HB4.out.size
  obtain ⟨ip, hpi, hpz0, hpz1, hpz2⟩ := info_parts Tryd.infoPairJ
  have hal : Below w4.heap.size w4 (w4.alloc (.cells #[] 36)) := (Below.refl _ w4).alloc (Nat.le_refl _) _
  obtain ⟨ao1, c1, w5, hA1, hown5, hb5, hk5, hs5⟩ := run_app_free (P := Tryd.prog) (w4.alloc (.cells #[] 36)) 24 24 w4.heap.size 36 ip _ 2 32 Tryd.underlying24 hpi hpz0 hpz1 hpz2 rfl (by decide) (.slice (some ⟨w4.heap.size, 0, none⟩) 0 0) 0 [] (row_empty _ _ _ (heap_alloc_new _ _) (Nat.le_refl _)) (.slice xo X.length xc) X.length _ ((HOX3.out.below hb4).below hal) (by omega) (by omega) hal.size
  rw [Nat.zero_add, List.nil_append] at hown5
  rw [Nat.zero_add] at hA1
  have hb45 : Below w4.heap.size w4 w5 := hal.trans hb5
  obtain ⟨ao2, c2, w6, hA2, hown6, hb6, hk6, hs6⟩ := run_app_free (P := Tryd.prog) w5 24 24 w4.heap.size 36 ip _ 2 32 Tryd.underlying24 hpi hpz0 hpz1 hpz2 rfl (by decide) (.slice ao1 X.length c1) X.length _ hown5 (.slice yo Y.length yc) Y.length _ ((HOY.out.below hb4).below hb45) (by omega) (by omega) (Nat.le_trans hal.size (by simpa using hs5))
  have hb46 : Below w4.heap.size w4 w6 := hb45.trans hb6
  have hQM : Qx w6 (.slice ao2 (X.length + Y.length) c2) (X ++ Y) := by
    have h := hown6
    rw [← List.flatMap_append, show X.length + Y.length = (X ++ Y).length from (List.length_append ..).symm] at h
    rw [show X.length + Y.length = (X ++ Y).length from (List.length_append ..).symm]
    exact qx_own h
  have CM := Lib.hid (mapped_asc (X ++ Y) _ w6 hQM (by rw [List.length_append]; omega))
  have HQZ := Lib.hid (qx_own hownZ)
  have HB6 := Lib.hid (HB4.out.trans (hb46.mono hs4))
  have HB46 := Lib.hid hb46
  have HZS := Lib.hid hZ
  have hZl : Z.length ≤ 100000 := by
    have h1 := pairs_le ((a ++ 10 :: b).length + 1) _ (Nat.lt_succ_self _) _ HJ.out
    have h2 := mapOf_le (pa ++ pb)
    have h3 := congrArg List.length hZ.1
    rw [List.length_map, List.length_mergeSort, List.length_map] at h3
    simp only [List.length_append, List.length_cons] at h1 h2
    omega
  have hs46 := hb46.size
  have hs66 := HB6.out.size
  clear hb4 hownZ hZ hal hown5 hb5 hk5 hs5 hb45 hown6 hb6 hk6 hs6 hb46 hQM CJ
  go_wp2_with (at_builtin; first | refine wpList_app_g (by rfl) _ _ 24 rfl _ _ rfl rfl hA1 ?_ | refine wpList_app_g (by rfl) _ _ 24 rfl _ _ rfl rfl hA2 ?_)
  refine CM.out.mono ?_
  rintro e w7 ⟨M, mo, mc, rfl, hownM, hMp, hMa, hb7⟩
  have hZM := joined_eq HXS.out HYS.out HZS.out hMp hMa
  subst hZM
  have CE := Lib.hid (eqp_any Z _ _ w7 ((HQZ.out.below HB46.out).below hb7) (qx_own hownM) (by omega))
  have HB7 := Lib.hid (HB6.out.trans (hb7.mono hs66))
  clear hownM hMp hMa hb7 CM
  go_wp2_with fail
  refine CE.out.mono ?_
  rintro e w8 ⟨rfl, hb8⟩
  have HB8 := Lib.hid (HB7.out.trans (hb8.mono HB7.out.size))
  clear hb8
  go_wp2
  go_ret
  exact ⟨rfl, HB8.out⟩
end Go.Proofs.YtdfhidnhkeapbaaDoor
