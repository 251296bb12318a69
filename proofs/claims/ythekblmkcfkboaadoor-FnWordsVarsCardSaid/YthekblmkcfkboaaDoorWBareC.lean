/- Helpers of the laws on lines of words: what fits, bytes that mean something, bare words, texts put together. -/
import Derived.Test.YthekblmkcfkboaaDoorWSeen
import Derived.Test.YthekblmkcfkboaaDoorWBarePlain
import Derived.Lib.SlBytesConst
namespace Go.Proofs.YthekblmkcfkboaaDoor
open Go.RowKit U8
open Go.Lib hiding intOf

def fitsB (l : List (List UInt8)) : Bool := decide (l.length ≤ 2147483647) && l.all fun x => decide (x.length ≤ 2147483647)
theorem fits_sz {l : List (List UInt8)} (h : fitsB l = true) : l.length + szs l ≤ 4611686018427387903 := by
  unfold fitsB at h
  rw [Bool.and_eq_true] at h
  have h1 := of_decide_eq_true h.1
  have h2 : ∀ (l : List (List UInt8)), (l.all fun x => decide (x.length ≤ 2147483647)) = true → szs l ≤ l.length * 2147483647 := by
    intro l
    induction l with
    | nil => intro _; simp [szs]
    | cons x l ih =>
      intro h
      rw [List.all_cons, Bool.and_eq_true] at h
      have h3 := of_decide_eq_true h.1
      have h4 := ih h.2
      rw [szs_cons, List.length_cons, Nat.add_mul]
      omega
  have h3 := h2 l h.2
  have h4 := Nat.mul_le_mul_right 2147483647 h1
  omega
set_option maxHeartbeats 1600000 in
theorem fits_any (l : List (List UInt8)) (v : Value) (w : World) (hT : Tx w v l) (hm : l.length ≤ 9223372036854775807) (hx2 : ∀ x ∈ l, x.length ≤ 9223372036854775807) :
    Calls Tryd.prog 10 #[v] w fun e w' => e = .returned (.bool (fitsB l)) ∧ w' = w := by
  obtain ⟨ao, cap, rfl, hx⟩ := hT
  have HX := Lib.hid hx
  have HM := Lib.hid hx2
  obtain ⟨S, hS⟩ : ∃ S, fitsB l = S := ⟨_, rfl⟩
  rw [hS]
  have HS := Lib.hid hS.symm
  clear hx hx2 hS
  by_cases hl : (2147483647 : Int) < l.length
  · have HF : Hid (S = false) := by show _ = _; rw [HS.out]; unfold fitsB; rw [decide_eq_false (by omega)]; rfl
    go_enter Tryd.func10, Tryd.ntmps10
    go_wp2
    go_ret
    exact ⟨by rw [HF.out]; rfl, rfl⟩
  have HA : Hid (S = l.all fun x => decide (x.length ≤ 2147483647)) := by show _ = _; rw [HS.out]; unfold fitsB; rw [decide_eq_true (by omega), Bool.true_and]
  clear HS
  go_enter Tryd.func10, Tryd.ntmps10
  go_wp2
  go_loopg [4, 10] (l.length + 1) (fun gk v4 v10 wr => ∃ k : Nat, v10 = .int .i64 k ∧ k ≤ l.length ∧ l.length - k < gk ∧ Hid (S = (l.drop k).all fun x => decide (x.length ≤ 2147483647)) ∧ wr = w)
  case atStart => exact ⟨0, rfl, by omega, by omega, HA.out, rfl⟩
  case round =>
    obtain ⟨k, rfl, hk, hg, HR, hwr⟩ := hrel
    obtain rfl := hwr.symm
    by_cases hlt : k < l.length
    · obtain ⟨gk, rfl⟩ : ∃ m, gk = m + 1 := ⟨gk - 1, by omega⟩
      have hx := List.getElem?_eq_getElem hlt
      have hd := List.drop_eq_getElem_cons hlt
      generalize l[k] = x at hx hd
      obtain ⟨g, o1, rfl, cx⟩ := HX.out k x hx
      have hxm := HM.out x (List.mem_of_getElem? hx)
      have hts := txt_size x
      have HR2 : Hid (S = (decide (x.length ≤ 2147483647) && (l.drop (k + 1)).all fun x => decide (x.length ≤ 2147483647))) := by show _ = _; rw [HR.out, hd]; rfl
      clear hx hd HR
      by_cases hxl : (2147483647 : Int) < x.length
      · have HF : Hid (S = false) := by show _ = _; rw [HR2.out, decide_eq_false (by omega)]; rfl
        clear HR2
        go_wp2
        go_ret
        exact ⟨by rw [HF.out]; rfl, rfl⟩
      · have HF : Hid (S = (l.drop (k + 1)).all fun x => decide (x.length ≤ 2147483647)) := by show _ = _; rw [HR2.out, decide_eq_true (by omega)]; rfl
        clear HR2
        go_wp2
        go_roundg gk
        case rel => exact ⟨k + 1, by go_num, by omega, by omega, HF.out, rfl⟩
        case measure => omega
    · have HF : Hid (S = true) := by show _ = _; rw [HR.out, List.drop_eq_nil_of_le (by omega)]; rfl
      clear HR
      go_wp2
      go_ret
      exact ⟨by rw [HF.out]; rfl, rfl⟩
theorem bytes_alloc (W : World) (l : List UInt8) (m : Nat × Nat) : ∀ (k : Nat) (b : UInt8), l[k]? = some b → (W.alloc (.cells (byteCells l).toArray 5 m)).cell? ⟨W.heap.size, k, none⟩ = some (.int .u8 b.toNat) := by
  intro k b hb
  have h := heap_alloc_new W (.cells (byteCells l).toArray 5 m)
  unfold World.cell?
  rw [h]
  simp [byteCells_get, hb]
set_option maxHeartbeats 1600000 in
set_option maxRecDepth 100000 in
theorem mark_any (c : UInt8) (w : World) : Calls Tryd.prog 23 #[.int .u8 c.toNat] w fun e w' => e = .returned (.bool (markB c)) ∧ Below w.heap.size w w' := by
  obtain ⟨S, hS⟩ : ∃ S, markB c = S := ⟨_, rfl⟩
  rw [hS]
  have HS := Lib.hid hS.symm
  have hc8 := c.toNat_lt
  have hbr := Below.refl w.heap.size w
  clear hS
  by_cases h1 : (c.toNat : Int) ≤ 32
  · have HF : Hid (S = true) := by show _ = _; rw [HS.out]; unfold markB; rw [decide_eq_true (by omega)]; rfl
    go_enter Tryd.func23, Tryd.ntmps23
    go_wp2
    go_ret
    exact ⟨by rw [HF.out]; rfl, hbr⟩
  by_cases h2 : (127 : Int) ≤ c.toNat
  · have HF : Hid (S = true) := by show _ = _; rw [HS.out]; unfold markB; rw [decide_eq_true (by omega)]; rfl
    go_enter Tryd.func23, Tryd.ntmps23
    go_wp2
    go_ret
    exact ⟨by rw [HF.out]; rfl, hbr⟩
  have HA : Hid (S = markL.any (· == c)) := by show _ = _; rw [HS.out]; unfold markB; rw [decide_eq_false (by omega), Bool.false_or]
  have hcell := Lib.hid (bytes_alloc w markL (21, 22))
  have hbw : Below w.heap.size w (w.alloc (.cells (byteCells markL).toArray 5 (21, 22))) := (Below.refl _ _).alloc (Nat.le_refl _) _
  have HBW := Lib.hid hbw
  have hcv := run_convert_bytes_const (P := Tryd.prog) w 23 5 (byteCells markL).toArray 21 21 Tryd.underlying23 Tryd.underlying5
  rw [show (byteCells markL).toArray.size = 21 from rfl] at hcv
  rw [show w.alloc (.cells (byteCells markL).toArray 5) = w.alloc (.cells #[.int .u8 39, .int .u8 34, .int .u8 92, .int .u8 96, .int .u8 36, .int .u8 40, .int .u8 41, .int .u8 59, .int .u8 38, .int .u8 124, .int .u8 60, .int .u8 62, .int .u8 35, .int .u8 42, .int .u8 63, .int .u8 91, .int .u8 93, .int .u8 123, .int .u8 125, .int .u8 33, .int .u8 126] 5) from rfl] at hcv
  clear HS hbw
  go_enter Tryd.func23, Tryd.ntmps23
  go_wp2
  go_loopg [4, 14] 22 (fun gk v4 v14 wr => ∃ k : Nat, v14 = .int .i64 k ∧ k ≤ 21 ∧ 21 - k < gk ∧ Hid (S = (markL.drop k).any (· == c)) ∧ wr = w.alloc (.cells (byteCells markL).toArray 5 (21, 22)))
  case atStart => exact ⟨0, rfl, by omega, by omega, HA.out, rfl⟩
  case round =>
    obtain ⟨k, rfl, hk, hg, HR, rfl⟩ := hrel
    by_cases hlt : k < 21
    · obtain ⟨gk, rfl⟩ : ∃ m, gk = m + 1 := ⟨gk - 1, by omega⟩
      have hll : markL.length = 21 := rfl
      have hx := List.getElem?_eq_getElem (l := markL) (i := k) (by omega)
      have hd := List.drop_eq_getElem_cons (l := markL) (i := k) (by omega)
      generalize markL[k]'(by omega) = x at hx hd
      have cx := hcell.out k x hx
      have HR2 : Hid (S = (x == c || (markL.drop (k + 1)).any (· == c))) := by show _ = _; rw [HR.out, hd]; rfl
      generalize hW : w.alloc (.cells (byteCells markL).toArray 5 (21, 22)) = W at *
      have HW := Lib.hid hW
      clear hx hd HR hll hW
      by_cases hxc : x = c
      · subst hxc
        have HF : Hid (S = true) := by show _ = _; rw [HR2.out]; simp
        have he : ((x.toNat : Int) == (x.toNat : Int)) = true := by simp
        clear HR2
        go_wp2
        go_ret
        exact ⟨by rw [HF.out]; rfl, HBW.out⟩
      · have HF : Hid (S = (markL.drop (k + 1)).any (· == c)) := by show _ = _; rw [HR2.out, beq_eq_false_iff_ne.2 hxc]; rfl
        have he : ((c.toNat : Int) == (x.toNat : Int)) = false := by
          rw [beq_eq_false_iff_ne]
          intro h
          exact hxc (UInt8.toNat_inj.1 (by omega))
        clear HR2 hxc
        go_wp2
        go_roundg gk
        case rel => exact ⟨k + 1, by go_num, by omega, by omega, HF.out, by first | rfl | exact HW.out.symm⟩
        case measure => omega
    · have HF : Hid (S = false) := by show _ = _; rw [HR.out, List.drop_eq_nil_of_le (by show 21 ≤ k; omega)]; rfl
      generalize hW : w.alloc (.cells (byteCells markL).toArray 5 (21, 22)) = W at *
      clear HR hW
      go_wp2
      go_ret
      exact ⟨by rw [HF.out]; rfl, HBW.out⟩
def bareB (l : List (List UInt8)) : Bool := (l.all fun x => !x.isEmpty && x.all fun b => !markB b) && decide (l.length + szs l ≤ 1000)
set_option maxHeartbeats 3200000 in
theorem bare_any (l : List (List UInt8)) (v : Value) (w : World) (hT : Tx w v l) (hz : l.length + szs l ≤ 4611686018427387903) :
    Calls Tryd.prog 12 #[v] w fun e w' => e = .returned (.bool (bareB l)) ∧ Below w.heap.size w w' := by
  have CZ := Lib.hid fun W (h : Below w.heap.size w W) => size_any l v W (hT.below h) hz
  have CM := Lib.hid fun (c : UInt8) (W : World) => mark_any c W
  obtain ⟨ao, cap, rfl, hx⟩ := hT
  have HX := Lib.hid hx
  have hll : l.length ≤ 4611686018427387903 := by omega
  obtain ⟨S, hS⟩ : ∃ S, bareB l = S := ⟨_, rfl⟩
  obtain ⟨Z, hZ⟩ : ∃ Z, l.length + szs l = Z := ⟨_, rfl⟩
  rw [hS]
  rw [hZ] at CZ hz
  have hS2 : S = ((l.all fun x => !x.isEmpty && x.all fun b => !markB b) && decide (Z ≤ 1000)) := by rw [← hS, ← hZ]; rfl
  have HS := Lib.hid hS2
  have HSZ : Hid (∀ (k : Nat) (x : List UInt8), l[k]? = some x → x.length ≤ Z) := fun k x h => by have := szs_le h; omega
  clear hx hS hS2 hZ
  go_enter Tryd.func12, Tryd.ntmps12
  go_wp2
  go_loopg [4, 5, 8] (l.length + 1) (fun gk v4 v5 v8 wr => ∃ k : Nat, v8 = .int .i64 k ∧ k ≤ l.length ∧ l.length - k < gk ∧ Hid (S = (((l.drop k).all fun x => !x.isEmpty && x.all fun b => !markB b) && decide (Z ≤ 1000))) ∧ Hid (Below w.heap.size w wr))
  case atStart => exact ⟨0, rfl, by omega, by omega, HS.out, Below.refl _ _⟩
  case round =>
    obtain ⟨k, rfl, hk, hg, HR, HB⟩ := hrel
    by_cases hlt : k < l.length
    · obtain ⟨g1, rfl⟩ : ∃ m, gk = m + 1 := ⟨gk - 1, by omega⟩
      have hx := List.getElem?_eq_getElem hlt
      have hd := List.drop_eq_getElem_cons hlt
      generalize l[k] = x at hx hd
      obtain ⟨g, o1, rfl, cx0⟩ := HX.out k x hx
      have cx : wr.cell? ⟨g, o1 + k, none⟩ = some (.string (txt x)) := (HB.out.cell (World.block_lt_of_cell? w _ cx0)).trans cx0
      have hxz := HSZ.out k x hx
      have hts := txt_size x
      have HR2 : Hid (S = (((!x.isEmpty && x.all fun b => !markB b) && (l.drop (k + 1)).all fun x => !x.isEmpty && x.all fun b => !markB b) && decide (Z ≤ 1000))) := by
        show _ = _
        rw [HR.out, hd]; rfl
      clear hx hd HR cx0
      by_cases hx0 : x = []
      · subst hx0
        have HF : Hid (S = false) := by show _ = _; rw [HR2.out]; rfl
        have he : ((txt []).toList == ([] : List UInt8)) = true := by rw [txt_toList]; rfl
        clear HR2
        go_wp2
        go_ret
        exact ⟨by rw [HF.out]; rfl, HB.out⟩
      have he : ((txt x).toList == ([] : List UInt8)) = false := by rw [txt_toList]; exact beq_eq_false_iff_ne.2 hx0
      have HR3 : Hid (S = (((x.all fun b => !markB b) && (l.drop (k + 1)).all fun x => !x.isEmpty && x.all fun b => !markB b) && decide (Z ≤ 1000))) := by
        show _ = _
        rw [HR2.out, show (!x.isEmpty) = true by cases x; exact absurd rfl hx0; rfl, Bool.true_and]
      clear HR2 hx0
      go_wp2
      rename World => v9
      go_loopg [5] (x.length + 1) (fun gk v5 wr => ∃ j : Nat, v5 = .int .i64 j ∧ j ≤ x.length ∧ x.length - j < gk ∧ Hid ((x.all fun b => !markB b) = (x.drop j).all fun b => !markB b) ∧ Hid (Below w.heap.size w wr))
      case atStart => exact ⟨0, rfl, by omega, by omega, rfl, HB.out⟩
      case round =>
        obtain ⟨j, rfl, hj, hgj, HJ, HB2⟩ := hrel
        by_cases hjl : j < x.length
        · obtain ⟨g2, rfl⟩ : ∃ m, gk = m + 1 := ⟨gk - 1, by omega⟩
          have hb := List.getElem?_eq_getElem hjl
          have hdj := List.drop_eq_getElem_cons hjl
          generalize x[j] = b at hb hdj
          have hby := run_byte x j b hb wr
          have HJ2 : Hid ((x.all fun b => !markB b) = (!markB b && (x.drop (j + 1)).all fun b => !markB b)) := by show _ = _; rw [HJ.out, hdj]; rfl
          clear hb hdj HJ
          go_wp2_with fail
          refine (CM.out b wr).mono ?_
          rintro e w2 ⟨rfl, hb2⟩
          have HB3 := Lib.hid (HB2.out.trans (hb2.mono HB2.out.size))
          clear hb2
          cases hm : markB b with
          | true =>
            have HF : Hid (S = false) := by show _ = _; rw [HR3.out, HJ2.out, hm]; simp
            clear HR3 HJ2 hm
            go_wp2
            go_ret
            exact ⟨by rw [HF.out]; rfl, HB3.out⟩
          | false =>
            have HJ3 : Hid ((x.all fun b => !markB b) = (x.drop (j + 1)).all fun b => !markB b) := by show _ = _; rw [HJ2.out, hm]; rfl
            clear HJ2 hm
            go_wp2
            go_roundg g2
            case rel => exact ⟨j + 1, by go_num, by omega, by omega, HJ3.out, HB3.out⟩
            case measure => omega
        · have HR4 : Hid (S = (((l.drop (k + 1)).all fun x => !x.isEmpty && x.all fun b => !markB b) && decide (Z ≤ 1000))) := by
            show _ = _
            rw [HR3.out, HJ.out, List.drop_eq_nil_of_le (by omega)]; rfl
          clear HR3 HJ
          go_wp2
          go_roundg g1
          case rel => exact ⟨k + 1, by go_num, by omega, by omega, HR4.out, HB2.out⟩
          case measure => omega
    · have HF : Hid (S = decide (Z ≤ 1000)) := by
        show _ = _
        rw [HR.out, List.drop_eq_nil_of_le (by omega)]; rfl
      clear HR
      go_wp2_with fail
      refine (CZ.out wr HB.out).mono ?_
      rintro e wx ⟨rfl, hwx⟩
      obtain rfl := hwx.symm
      go_wp2
      go_ret
      exact ⟨by rw [HF.out]; exact ret_bool (decide_eq_decide.2 (by omega)), HB.out⟩
theorem joinA_len (sep : List UInt8) (hs : sep.length ≤ 1) (l : List (List UInt8)) : (joinA sep l).length ≤ szs l + l.length := by
  have h : ∀ l : List (List UInt8), (l.flatMap fun y => sep ++ y).length ≤ szs l + l.length := by
    intro l
    induction l with
    | nil => simp
    | cons y l ih =>
      rw [List.flatMap_cons, List.length_append, List.length_append, szs_cons, List.length_cons]
      omega
  cases l with
  | nil => simp [joinA]
  | cons x l =>
    have := h l
    unfold joinA
    rw [List.length_append, szs_cons, List.length_cons]
    omega
theorem szs_app (a b : List (List UInt8)) : szs (a ++ b) = szs a + szs b := by unfold szs; rw [List.map_append, List.sum_append]
theorem szs_take (l : List (List UInt8)) (k : Nat) : szs (l.take k) + szs (l.drop k) = szs l := by
  rw [← szs_app, List.take_append_drop]
set_option maxHeartbeats 1600000 in
theorem joined_any (l : List (List UInt8)) (sep : List UInt8) (v : Value) (w : World) (hT : Tx w v l) (hm : l.length + szs l ≤ 100000) (hs : sep.length ≤ 1) :
    Calls Tryd.prog 18 #[v, .string (txt sep)] w fun e w' => e = .returned (.string (txt (joinA sep l))) ∧ w' = w := by
  obtain ⟨ao, cap, rfl, hx⟩ := hT
  have HX := Lib.hid hx
  obtain ⟨O, hO⟩ : ∃ O, joinA sep l = O := ⟨_, rfl⟩
  rw [hO]
  have HO := Lib.hid hO.symm
  clear hx hO
  go_enter Tryd.func18, Tryd.ntmps18
  go_wp2
  go_loopg [5, 6, 7, 10] (l.length + 1) (fun gk v5 v6 v7 v10 wr => ∃ (k : Nat) (o : List UInt8), v10 = .int .i64 k ∧ v5 = .string (txt o) ∧ k ≤ l.length ∧ l.length - k < gk ∧ Hid (o = joinA sep (l.take k)) ∧ wr = w)
  case atStart => exact ⟨0, [], rfl, rfl, by omega, by omega, rfl, rfl⟩
  case round =>
    obtain ⟨k, o, rfl, rfl, hk, hg, HR, hwr⟩ := hrel
    obtain rfl := hwr.symm
    by_cases hlt : k < l.length
    · obtain ⟨gk, rfl⟩ : ∃ m, gk = m + 1 := ⟨gk - 1, by omega⟩
      have hx := List.getElem?_eq_getElem hlt
      have htk := List.take_succ_eq_append_getElem hlt
      generalize l[k] = x at hx htk
      obtain ⟨g, o1, rfl, cx⟩ := HX.out k x hx
      have hol : o.length ≤ 100000 := by
        have h1 := joinA_len sep hs (l.take k)
        have h2 := szs_take l k
        have h3 : (l.take k).length ≤ l.length := by rw [List.length_take]; omega
        rw [← HR.out] at h1
        omega
      have hxl := szs_le hx
      have ho1 := txt_size o
      have ho2 := txt_size sep
      have ho3 := txt_size x
      have HR2 : Hid (joinA sep (l.take (k + 1)) = o ++ (if l.take k = [] then x else sep ++ x)) := by
        show _ = _
        rw [htk, joinA_snoc, HR.out]
      clear hx htk HR
      by_cases hk0 : k = 0
      · subst hk0
        rw [Nat.add_zero] at cx
        have HR3 : Hid (joinA sep (l.take (0 + 1)) = o ++ x) := by show _ = _; rw [HR2.out]; rfl
        have happ := txt_append o x
        clear HR2
        go_wp2
        go_roundg gk
        case rel => exact ⟨0 + 1, o ++ x, by go_num, by first | rfl | rw [happ], by omega, by omega, HR3.out.symm, rfl⟩
        case measure => omega
      · have hne : ¬ l.take k = [] := fun h => by
          have h2 : min k l.length = 0 := by have := congrArg List.length h; rwa [List.length_take] at this
          omega
        have HR3 : Hid (joinA sep (l.take (k + 1)) = o ++ sep ++ x) := by show _ = _; rw [HR2.out, if_neg hne, List.append_assoc]
        have happ := Lib.hid (show txt o ++ txt sep ++ txt x = txt (o ++ sep ++ x) by rw [txt_append, txt_append])
        have hk1 : (0 : Int) < k := by omega
        clear HR2 hne hk0
        go_wp2
        go_roundg gk
        case rel => exact ⟨k + 1, o ++ sep ++ x, by go_num, by first | rfl | rw [happ.out], by omega, by omega, HR3.out.symm, rfl⟩
        case measure => omega
    · have HF : Hid (o = O) := by
        show _ = _
        rw [HR.out, HO.out, List.take_of_length_le (by omega)]
      clear HR
      go_wp2
      go_ret
      exact ⟨by rw [← HF.out]; rfl, rfl⟩

end Go.Proofs.YthekblmkcfkboaaDoor
