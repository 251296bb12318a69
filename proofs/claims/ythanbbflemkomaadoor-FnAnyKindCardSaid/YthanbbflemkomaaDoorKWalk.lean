/- The functions of the laws that speak of words in eight styles: names, titled, styled. -/
import Derived.Test.YthanbbflemkomaaDoorKTx
import Derived.Deep.AppendLies
namespace Go.Proofs.YthanbbflemkomaaDoor
open Go.RowKit U8
open Go.Lib hiding intOf

theorem up_eq : upB = toUp := rfl
def nmB (x : List UInt8) : Bool := decide (2 ≤ x.length) && decide (x.length ≤ 30) && x.all isLow
def namesB (l : List (List UInt8)) : Bool := l.all nmB && decide (0 < l.length) && decide (l.length ≤ 20)
set_option maxHeartbeats 3200000 in
theorem names_any (l : List (List UInt8)) (v : Value) (w : World) (hT : Tx w v l) (hll : l.length ≤ 2147483647) (hxz : ∀ x ∈ l, x.length ≤ 2147483647) :
    Calls Tryd.prog 8 #[v] w fun e w' => e = .returned (.bool (namesB l)) ∧ w' = w := by
  obtain ⟨ao, cap, rfl, _, hx⟩ := hT
  have HX := Lib.hid hx
  have HM := Lib.hid hxz
  obtain ⟨S, hS⟩ : ∃ S, namesB l = S := ⟨_, rfl⟩
  rw [hS]
  have hS2 : S = (l.all nmB && (decide (0 < l.length) && decide (l.length ≤ 20))) := by rw [← hS]; unfold namesB; rw [Bool.and_assoc]
  have HS := Lib.hid hS2
  clear hx hS hS2 hxz
  go_enter Tryd.func8, Tryd.ntmps8
  go_wp2
  go_loopg [4, 5, 8] (l.length + 1) (fun gk v4 v5 v8 wr => ∃ k : Nat, v8 = .int .i64 k ∧ k ≤ l.length ∧ l.length - k < gk ∧ Hid (S = ((l.drop k).all nmB && (decide (0 < l.length) && decide (l.length ≤ 20)))) ∧ wr = w)
  case atStart => exact ⟨0, rfl, by omega, by omega, HS.out, rfl⟩
  case round =>
    obtain ⟨k, rfl, hk, hg, HR, hwr⟩ := hrel
    obtain rfl := hwr.symm
    by_cases hlt : k < l.length
    · obtain ⟨g1, rfl⟩ : ∃ m, gk = m + 1 := ⟨gk - 1, by omega⟩
      have hx := List.getElem?_eq_getElem hlt
      have hd := List.drop_eq_getElem_cons hlt
      generalize l[k] = x at hx hd
      obtain ⟨g, o1, rfl, cx⟩ := HX.out k x hx
      have hxz := HM.out x (List.mem_of_getElem? hx)
      have hts := txt_size x
      have HR2 : Hid (S = ((nmB x && (l.drop (k + 1)).all nmB) && (decide (0 < l.length) && decide (l.length ≤ 20)))) := by
        show _ = _
        rw [HR.out, hd]; rfl
      clear hx hd HR
      by_cases h2 : (x.length : Int) < 2
      · have HF : Hid (S = false) := by show _ = _; rw [HR2.out]; unfold nmB; rw [decide_eq_false (p := 2 ≤ x.length) (by omega)]; rfl
        clear HR2
        go_wp2
        go_ret
        exact ⟨by rw [HF.out]; rfl, rfl⟩
      by_cases h30 : (30 : Int) < x.length
      · have HF : Hid (S = false) := by show _ = _; rw [HR2.out]; unfold nmB; rw [decide_eq_false (p := x.length ≤ 30) (by omega), Bool.and_false]; rfl
        clear HR2
        go_wp2
        go_ret
        exact ⟨by rw [HF.out]; rfl, rfl⟩
      have HR3 : Hid (S = ((x.all isLow && (l.drop (k + 1)).all nmB) && (decide (0 < l.length) && decide (l.length ≤ 20)))) := by
        show _ = _; rw [HR2.out]; unfold nmB; rw [decide_eq_true (p := x.length ≤ 30) (by omega), decide_eq_true (p := 2 ≤ x.length) (by omega)]; rfl
      clear HR2
      go_wp2
      rename World => v9
      go_loopg [5] (x.length + 1) (fun gk v5 wr => ∃ j : Nat, v5 = .int .i64 j ∧ j ≤ x.length ∧ x.length - j < gk ∧ Hid (x.all isLow = (x.drop j).all isLow) ∧ wr = v9)
      case atStart => exact ⟨0, rfl, by omega, by omega, rfl, rfl⟩
      case round =>
        obtain ⟨j, rfl, hj, hgj, HJ, hwr⟩ := hrel
        obtain rfl := hwr.symm
        by_cases hjl : j < x.length
        · obtain ⟨g2, rfl⟩ : ∃ m, gk = m + 1 := ⟨gk - 1, by omega⟩
          have hb := List.getElem?_eq_getElem hjl
          have hdj := List.drop_eq_getElem_cons hjl
          generalize x[j] = b at hb hdj
          have hby := run_byte x j b hb
          have HJ2 : Hid (x.all isLow = (isLow b && (x.drop (j + 1)).all isLow)) := by show _ = _; rw [HJ.out, hdj]; rfl
          obtain ⟨y, hy⟩ : ∃ y, b.toNat = y := ⟨_, rfl⟩
          rw [hy] at hby
          have HY := Lib.hid hy
          clear hb hdj HJ hy
          by_cases h97 : (y : Int) < 97
          · have HF : Hid (S = false) := by
              show _ = _
              rw [HR3.out, HJ2.out, show isLow b = false from decide_eq_false (by rw [HY.out]; omega)]; simp
            clear HR3 HJ2
            go_wp2
            go_ret
            exact ⟨by rw [HF.out]; rfl, rfl⟩
          by_cases h122 : (122 : Int) < y
          · have HF : Hid (S = false) := by
              show _ = _
              rw [HR3.out, HJ2.out, show isLow b = false from decide_eq_false (by rw [HY.out]; omega)]; simp
            clear HR3 HJ2
            go_wp2
            go_ret
            exact ⟨by rw [HF.out]; rfl, rfl⟩
          have HJ3 : Hid (x.all isLow = (x.drop (j + 1)).all isLow) := by
            show _ = _
            rw [HJ2.out, show isLow b = true from decide_eq_true (by rw [HY.out]; omega)]; rfl
          clear HJ2
          go_wp2
          go_roundg g2
          case rel => exact ⟨j + 1, by go_num, by omega, by omega, HJ3.out, rfl⟩
          case measure => omega
        · have HR4 : Hid (S = ((l.drop (k + 1)).all nmB && (decide (0 < l.length) && decide (l.length ≤ 20)))) := by
            show _ = _
            rw [HR3.out, HJ.out, List.drop_eq_nil_of_le (by omega)]; rfl
          clear HR3 HJ
          go_wp2
          go_roundg g1
          case rel => exact ⟨k + 1, by go_num, by omega, by omega, HR4.out, rfl⟩
          case measure => omega
    · have HF : Hid (S = (decide (0 < l.length) && decide (l.length ≤ 20))) := by
        show _ = _
        rw [HR.out, List.drop_eq_nil_of_le (by omega)]; rfl
      clear HR
      by_cases h0 : (0 : Int) < l.length
      · by_cases h20 : (l.length : Int) ≤ 20
        · go_wp2
          go_ret
          exact ⟨by rw [HF.out, decide_eq_true (by omega), decide_eq_true (by omega)]; rfl, rfl⟩
        · go_wp2
          go_ret
          exact ⟨by rw [HF.out, decide_eq_true (by omega), decide_eq_false (by omega)]; rfl, rfl⟩
      · go_wp2
        go_ret
        exact ⟨by rw [HF.out, decide_eq_false (by omega)]; rfl, rfl⟩

theorem one_new (W : World) (u : Value) (e : TypeId) : ∀ j y, [u][j]? = some y → (W.alloc (.cells #[u] e)).cell? ((⟨W.heap.size, 0, none⟩ : Addr).add j) = some y := by
  intro j y hj
  match j, hj with
  | 0, hj => simp at hj; subst hj; simp [Addr.add]
theorem tit_len (x : List UInt8) : (tit x).length = x.length := by cases x <;> rfl
theorem strsV_len (l : List (List UInt8)) : (strsV l).length = l.length := by simp [strsV]
set_option maxHeartbeats 3200000 in
set_option maxRecDepth 100000 in
theorem titled_any (l : List (List UInt8)) (v : Value) (w : World) (hT : Tx w v l) (hll : l.length ≤ 1000) (hx1 : ∀ x ∈ l, 1 ≤ x.length ∧ x.length ≤ 1000) :
    Calls Tryd.prog 35 #[v] w fun e w' => ∃ ao cap, e = .returned (.slice ao (l.map tit).length cap) ∧ w'.ownsRow w.heap.size 9 1 (.slice ao (l.map tit).length cap) (l.map tit).length (strsV (l.map tit)) ∧ Below w.heap.size w w' := by
  obtain ⟨i0, hi, hz0, hz1, hz2⟩ := info_parts Tryd.infoStr
  obtain ⟨ao, cap, rfl, _, hx⟩ := hT
  have HX := Lib.hid hx
  have HM := Lib.hid hx1
  clear hx hx1
  go_enter Tryd.func35, Tryd.ntmps35
  go_wp2
  go_loopg [3, 5, 8] (l.length + 1) (fun gk v3 v5 v8 wr => ∃ k : Nat, v8 = .int .i64 k ∧ k ≤ l.length ∧ l.length - k < gk ∧ Hid (wr.ownsRow w.heap.size 9 1 v3 k (strsV ((l.take k).map tit))) ∧ Hid (Below w.heap.size w wr))
  case atStart => exact ⟨0, rfl, by omega, by omega, World.ownsRow_nil _ _ _ _, Below.refl _ _⟩
  case round =>
    obtain ⟨k, rfl, hk, hg, HO, HB⟩ := hrel
    have hbs := HB.out.size
    by_cases hlt : k < l.length
    · obtain ⟨g1, rfl⟩ : ∃ m, gk = m + 1 := ⟨gk - 1, by omega⟩
      have hx := List.getElem?_eq_getElem hlt
      have htk := List.take_succ_eq_append_getElem hlt
      generalize l[k] = x at hx htk
      obtain ⟨g, o1, rfl, cx0⟩ := HX.out k x hx
      have cx : wr.cell? ⟨g, o1 + k, none⟩ = some (.string (txt x)) := (HB.out.cell (World.block_lt_of_cell? w _ cx0)).trans cx0
      obtain ⟨hx0, hx9⟩ := HM.out x (List.mem_of_getElem? hx)
      have HTK : Hid (strsV ((l.take (k + 1)).map tit) = strsV ((l.take k).map tit) ++ [.string (txt (tit x))]) := by
        show _ = _
        rw [htk, List.map_append]; simp [strsV]
      clear hx htk cx0
      match x, hx0 with
      | c :: r, _ =>
      have hts := txt_size (c :: r)
      rw [List.length_cons] at hts hx9
      have hs1 : (txt (c :: r)).extract 0 1 = txt [c] := txt_take [c] r
      have hs2 : (txt (c :: r)).extract 1 (txt (c :: r)).size = txt r := txt_skip [c] r
      have hq1 : (1 : Int) ≤ (r.length : Int) + 1 := by omega
      rw [hts] at hs2
      have CU := Lib.hid fun W => upper_any [c] W (by simp)
      have HAP : Hid (txt ([c].map upB) ++ txt r = txt (tit (c :: r))) := by show _ = _; rw [txt_append]; rfl
      obtain ⟨U, hU⟩ : ∃ U, txt ([c].map upB) = U := ⟨_, rfl⟩
      rw [hU] at CU HAP
      have hcat : U.size + (txt r).size ≤ 1000000 := by rw [← hU, txt_size, txt_size]; simp; omega
      have HA := Lib.hid HAP.out
      have hcat2 : ¬ 9223372036854775807 < U.size + (txt r).size := by omega
      clear hU
      obtain ⟨ao3, cap3, hv3⟩ := owns_slice HO.out
      subst hv3
      go_upto_region 5 with fail
      have HD := Lib.hid (World.ownsRow.drew HO.out)
      have HBD := Lib.hid HB.out.drew
      go_region_law (first
        | (refine step_append_lies _ rfl (.tmp 12) (.tmp 19) 22 rfl w.heap.size 9 i0 (.string ⟨#[]⟩) 1 16 Tryd.underlying22 hi hz0 hz1 hz2 rfl (by decide) (.slice ao3 k cap3) k _ (by simp [Act.eval]) hon.out ⟨wn.heap.size, 0, none⟩ 1 1 [.string (U ++ txt r)] (by simp [Act.eval]) rfl (one_new wn _ _) (by intro u hu; simp at hu; subst hu; rfl) (by decide) (by unfold maxLen; omega) (by omega) hbase.out _ rfl ?_; intro ga cp2 w2 hown' hgrow hor hlt2)
        | (go_simp; go_at_call 9; refine (CU.out _).mono ?_; rintro e wn ⟨rfl, hbn⟩
           have hon := Lib.hid (World.ownsRow.alloc (owns_below HD.out hbn) (.cells #[.string (U ++ txt r)] 9))
           have hbase := Lib.hid (show w.heap.size ≤ (wn.alloc (.cells #[.string (U ++ txt r)] 9)).heap.size by have := hbn.size; simp at this ⊢; omega)))
      have HO3 : Hid (w2.ownsRow w.heap.size 9 1 (.slice (some ⟨ga, 0, none⟩) (k + 1) cp2) (k + 1) (strsV ((l.take (k + 1)).map tit))) := by
        show World.ownsRow _ _ _ _ _ _ _
        rw [HTK.out, ← HA.out]
        exact hown'
      have hb3 : Below w.heap.size w wn := HBD.out.trans (hbn.mono (by have := HBD.out.size; omega))
      have HB3 : Hid (Below w.heap.size w w2) := (hb3.alloc hb3.size (.cells #[.string (U ++ txt r)] 9)).grown hgrow (by have := hb3.size; simp; omega) (fun j hj => (hon.out.lt j hj).1)
      clear hor hlt2 hown' hgrow hb3 hbn
      go_wp2
      go_roundg g1
      case rel => exact ⟨k + 1, by go_num, by omega, by omega, HO3.out, HB3.out⟩
      case measure => omega
    · obtain ⟨ao3, cap3, hv3⟩ := owns_slice HO.out
      subst hv3
      obtain rfl : k = l.length := by omega
      go_wp2
      go_ret
      have h := HO.out
      rw [List.take_length] at h
      rw [List.length_map]
      exact ⟨ao3, cap3, rfl, h, HB.out⟩

/-- The text of a list of words in a style. -/
theorem szs_tit (l : List (List UInt8)) : szs (l.map tit) = szs l := by
  induction l with
  | nil => rfl
  | cons x l ih => rw [List.map_cons, szs_cons, szs_cons, ih, tit_len]
theorem sty_len (l : List (List UInt8)) (k : Nat) : (styA l k).length ≤ szs l + l.length := by
  have hm : ∀ l : List (List UInt8), szs (l.map tit) = szs l := by
    intro l
    induction l with
    | nil => rfl
    | cons x l ih => rw [List.map_cons, szs_cons, szs_cons, ih, tit_len]
  have h1 := joinA_len [95] (by simp) l
  have h2 := joinA_len [45] (by simp) l
  have h3 := joinA_len [32] (by simp) l
  have h4 := joinA_len [46] (by simp) l
  have h5 := joinA_len [] (by simp) (l.map tit)
  have h6 := joinA_len [] (by simp) (l.tail.map tit)
  rw [hm, List.length_map] at h5 h6
  match k with
  | 0 => exact h1
  | 1 => show ((joinA [95] l).map toUp).length ≤ _; rw [List.length_map]; exact h1
  | 2 => exact h2
  | 3 => show ((joinA [45] l).map toUp).length ≤ _; rw [List.length_map]; exact h2
  | 4 => exact h3
  | 5 => exact h4
  | 6 => exact h5
  | k + 7 =>
    show (l.headD [] ++ joinA [] (l.tail.map tit)).length ≤ _
    cases l with
    | nil => simp [joinA]
    | cons x l =>
      rw [List.tail_cons] at h6 ⊢
      rw [List.length_append, szs_cons, List.length_cons, List.headD_cons]
      omega
end Go.Proofs.YthanbbflemkomaaDoor
