/- Helpers of the laws on lines of words: rows of texts, whether they are alike. -/
import Derived.Test.YthekblmkcfkboaaDoorWImpl
import Derived.Test.YthekblmkcfkboaaDoorWRun
namespace Go.Proofs.YthekblmkcfkboaaDoor
open Go.RowKit U8
open Go.Lib hiding intOf

/-- A slice of texts. -/
def Tx (w : World) (v : Value) (l : List (List UInt8)) : Prop := ∃ ao cap, v = .slice ao l.length cap ∧ ∀ j x, l[j]? = some x → ∃ g o, ao = some ⟨g, o, none⟩ ∧ w.cell? ⟨g, o + j, none⟩ = some (.string (txt x))
theorem Tx.below {w w' : World} {v : Value} {l : List (List UInt8)} (h : Tx w v l) (hb : Below w.heap.size w w') : Tx w' v l := by
  obtain ⟨ao, cap, e, hx⟩ := h
  refine ⟨ao, cap, e, fun j x hj => ?_⟩
  obtain ⟨g, o, e2, hc⟩ := hx j x hj
  exact ⟨g, o, e2, (hb.cell (World.block_lt_of_cell? w _ hc)).trans hc⟩
theorem tx_own {w : World} {base : Nat} {v : Value} {l : List (List UInt8)} (h : w.ownsRow base 9 1 v l.length (strsV l)) : Tx w v l := by
  rcases h.2 with ⟨rfl, h0⟩ | ⟨g, cap, cur, rfl, _⟩
  · refine ⟨none, 0, by rw [h0], fun j x hj => ?_⟩
    have := (List.getElem?_eq_some_iff.1 hj).1
    omega
  · refine ⟨_, cap, rfl, fun j x hj => ⟨g, 0, rfl, ?_⟩⟩
    have h1 : (strsV l)[j]? = some (.string (txt x)) := by simp [strsV, hj]
    have h2 := World.ownsRow.cells h rfl j _ h1
    rw [Nat.zero_add, ← h2]
    congr 1
    unfold Addr.add; split <;> simp_all
set_option maxHeartbeats 3200000 in
theorem eq_texts (a b : List (List UInt8)) (va vb : Value) (w : World) (ha : Tx w va a) (hb : Tx w vb b) (la : a.length ≤ 1000000) (_lb : b.length ≤ 1000000) :
    Calls Tryd.prog 14 #[va, vb] w fun e w' => e = .returned (.bool (decide (a = b))) ∧ Below w.heap.size w w' := by
  obtain ⟨ao, ca, rfl, hax⟩ := ha
  obtain ⟨bo, cb, rfl, hbx⟩ := hb
  have HA := Lib.hid hax
  have HB := Lib.hid hbx
  obtain ⟨D, hD⟩ : ∃ D, decide (a = b) = D := ⟨_, rfl⟩
  rw [hD]
  have HD := Lib.hid hD
  clear hax hbx hD
  by_cases hl : (a.length : Int) = b.length
  · have HL := Lib.hid hl
    have hne : ((a.length : Int) != (b.length : Int)) = false := by simp [hl]
    obtain ⟨n, hn⟩ : ∃ n, a.length = n := ⟨_, rfl⟩
    have hnb : b.length = n := by omega
    have HN := Lib.hid hn
    have HNB := Lib.hid hnb
    have hnn : n ≤ 1000000 := by omega
    rw [hn, hnb] at hne
    rw [hn, hnb]
    clear hn hnb hl
    go_enter Tryd.func14, Tryd.ntmps14
    go_wp2
    go_loopg [5, 13] (n + 1) (fun gk v5 v13 wr => ∃ k : Nat, v13 = .int .i64 k ∧ k ≤ n ∧ n - k < gk ∧ Hid (D = decide (a.drop k = b.drop k)) ∧ Hid (Below w.heap.size w wr))
    case atStart => exact ⟨0, rfl, by omega, by omega, HD.out.symm, Below.refl _ _⟩
    case round =>
      obtain ⟨k, rfl, hk, hg, HR, HBw⟩ := hrel
      by_cases hlt : k < n
      · obtain ⟨gk, rfl⟩ : ∃ m, gk = m + 1 := ⟨gk - 1, by omega⟩
        have hka : k < a.length := by have := HN.out; omega
        have hkb : k < b.length := by have := HNB.out; omega
        have hx := List.getElem?_eq_getElem hka
        have hy := List.getElem?_eq_getElem hkb
        have hdx := List.drop_eq_getElem_cons hka
        have hdy := List.drop_eq_getElem_cons hkb
        generalize a[k] = x at hx hdx
        generalize b[k] = y at hy hdy
        obtain ⟨g, o1, rfl, cx⟩ := HA.out k x hx
        obtain ⟨g2, o2, rfl, cy⟩ := HB.out k y hy
        have cx2 : wr.cell? ⟨g, o1 + k, none⟩ = some (.string (txt x)) := (HBw.out.cell (World.block_lt_of_cell? w _ cx)).trans cx
        have cy2 : wr.cell? ⟨g2, o2 + k, none⟩ = some (.string (txt y)) := (HBw.out.cell (World.block_lt_of_cell? w _ cy)).trans cy
        have HR2 := Lib.hid HR.out
        have HDD : Hid (D = (decide (x = y) && decide (a.drop (k + 1) = b.drop (k + 1)))) := by
          show _ = _
          rw [HR.out, hdx, hdy]
          simp
        clear hx hy hdx hdy cx cy hka hkb HR HR2
        go_upto_region 6 with fail
        by_cases hxy : x = y
        · subst hxy
          have hq2 : ((txt x).toList == (txt x).toList) = true := by simp
          have HD3 : Hid (D = decide (a.drop (k + 1) = b.drop (k + 1))) := by show _ = _; rw [HDD.out]; simp
          clear HDD
          go_quiet (fail)
          go_wp2
          go_roundg gk
          case rel => exact ⟨k + 1, by go_num, by omega, by omega, HD3.out, ⟨HBw.out.os, HBw.out.tape, HBw.out.output, HBw.out.size, HBw.out.block⟩⟩
          case measure => omega
        · have HD3 : Hid (D = false) := by show _ = _; rw [HDD.out]; simp [hxy]
          have hq2 : ((txt x).toList == (txt y).toList) = false := by rw [txt_toList, txt_toList]; exact beq_eq_false_iff_ne.2 hxy
          clear HDD hxy
          go_quiet (fail)
          go_wp2
          go_ret
          exact ⟨by rw [HD3.out]; rfl, ⟨HBw.out.os, HBw.out.tape, HBw.out.output, HBw.out.size, HBw.out.block⟩⟩
      · have HF : Hid (D = true) := by
          show _ = _
          rw [HR.out, List.drop_eq_nil_of_le (by have := HN.out; omega), List.drop_eq_nil_of_le (by have := HNB.out; omega)]; simp
        clear HR
        go_wp2
        go_ret
        exact ⟨by rw [HF.out]; rfl, HBw.out⟩
  · have HF : Hid (D = false) := by
      show _ = _
      rw [← HD.out]
      exact decide_eq_false (fun h => hl (by rw [h]))
    have hne : ((a.length : Int) != (b.length : Int)) = true := by simpa using hl
    clear hl
    go_enter Tryd.func14, Tryd.ntmps14
    go_wp2
    go_ret
    exact ⟨by rw [HF.out]; rfl, Below.refl _ _⟩

theorem tx_alloc (w : World) (l : List (List UInt8)) (cap : Nat) : Tx (w.alloc (.cells (strsV l).toArray 9)) (.slice (some ⟨w.heap.size, 0, none⟩) l.length cap) l := by
  refine ⟨_, cap, rfl, fun j x hj => ⟨_, 0, rfl, ?_⟩⟩
  rw [Nat.zero_add]
  have h := heap_alloc_new w (.cells (strsV l).toArray 9)
  unfold World.cell?
  rw [h]
  simp [strsV, hj]
theorem one_run : runS false [] Sx.start (rns [97, 32, 39, 98, 32, 99, 39]) = some ([[97], [98, 32, 99]], -1) := by
  rw [rns_asc _ (by decide)]
  decide
set_option maxHeartbeats 3200000 in
theorem one_any (w : World) (hE : Er w) : Calls Tryd.prog 11 #[] w fun e w' => e = .returned (.bool true) ∧ Below w.heap.size w w' := by
  have CW := Lib.hid (words_any false [] (fun _ h => by cases h) (by decide) [97, 32, 39, 98, 32, 99, 39] (by decide) w hE)
  go_enter Tryd.func11, Tryd.ntmps11
  go_wp2_with fail
  refine CW.out.mono ?_
  rintro e w1 ⟨hb1, _, hS⟩
  obtain ⟨ao, cap, rfl, hown⟩ := hS _ _ one_run
  have hx := tx_own hown
  have HB1 := Lib.hid hb1
  have CE := Lib.hid fun (vb : Value) W (h : Below w1.heap.size w1 W) (hb : Tx W vb [[97], [98, 32, 99]]) => eq_texts _ _ _ vb W (hx.below h) hb (by decide) (by decide)
  clear hS hown hx hb1
  go_wp2_with fail
  refine (CE.out _ _ ((Below.refl _ _).alloc (Nat.le_refl _) _) (tx_alloc w1 [[97], [98, 32, 99]] 2)).mono ?_
  rintro e w2 ⟨rfl, hb2⟩
  have HB2 := Lib.hid (HB1.out.trans ((((Below.refl w1.heap.size w1).alloc (Nat.le_refl _) _).trans (hb2.mono (by simp))).mono HB1.out.size))
  clear hb2
  go_wp2
  go_ret
  exact ⟨rfl, HB2.out⟩
set_option maxHeartbeats 800000 in
theorem long_any (s : ByteArray) (B : Bool) (w : World) (hB : decide (4096 < s.size) = B) (hs : s.size ≤ 2147483647) : Calls Tryd.prog 15 #[.string s] w fun e w' => e = .returned (.bool B) ∧ w' = w := by
  cases B with
  | true =>
    have h := of_decide_eq_true hB
    have h2 : (4096 : Int) < s.size := by omega
    clear hB h
    go_enter Tryd.func15, Tryd.ntmps15
    go_wp2
    go_ret
    exact ⟨rfl, rfl⟩
  | false =>
    have h := of_decide_eq_false hB
    have h2 : ¬ (4096 : Int) < s.size := by omega
    clear hB h
    go_enter Tryd.func15, Tryd.ntmps15
    go_wp2
    go_ret
    exact ⟨rfl, rfl⟩

end Go.Proofs.YthekblmkcfkboaaDoor
