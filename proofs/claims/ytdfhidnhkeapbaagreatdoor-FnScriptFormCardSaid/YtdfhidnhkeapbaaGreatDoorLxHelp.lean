/- Helpers of the laws on loading: letters, simple texts, texts that can be seen, texts alike, what a text begins with. Conditions: their lengths. -/
import Derived.Test.YtdfhidnhkeapbaaGreatDoorLxBase
namespace Go.Proofs.YtdfhidnhkeapbaaGreatDoor
open Go.RowKit U8
open Go.Lib hiding intOf

open Go.Lib hiding intOf

open Go.Lib hiding intOf

open Go.Lib hiding intOf

def letN (r : Nat) : Bool := decide ((65 ≤ r ∧ r ≤ 90) ∨ (97 ≤ r ∧ r ≤ 122))
theorem letter_any (x : Nat) (w : World) (h : x < 256) :
    Calls Tryz.prog 36 #[.int .u8 x] w fun e w' => e = .returned (.bool (letN x)) ∧ w' = w := by
  by_cases a : x < 65
  · have e : letN x = false := by unfold letN; rw [decide_eq_false_iff_not]; omega
    rw [e]; clear e
    go_enter Tryz.func36, Tryz.ntmps36
    go_wp2
    go_ret
    exact ⟨ret_bool (by simp <;> omega), rfl⟩
  by_cases b : x ≤ 90
  · have e : letN x = true := by unfold letN; rw [decide_eq_true_eq]; omega
    rw [e]; clear e
    go_enter Tryz.func36, Tryz.ntmps36
    go_wp2
    go_ret
    exact ⟨ret_bool (by simp <;> omega), rfl⟩
  by_cases c : x < 97
  · have e : letN x = false := by unfold letN; rw [decide_eq_false_iff_not]; omega
    rw [e]; clear e
    go_enter Tryz.func36, Tryz.ntmps36
    go_wp2
    go_ret
    exact ⟨ret_bool (by simp <;> omega), rfl⟩
  by_cases d : x ≤ 122
  · have e : letN x = true := by unfold letN; rw [decide_eq_true_eq]; omega
    rw [e]; clear e
    go_enter Tryz.func36, Tryz.ntmps36
    go_wp2
    go_ret
    exact ⟨ret_bool (by simp <;> omega), rfl⟩
  · have e : letN x = false := by unfold letN; rw [decide_eq_false_iff_not]; omega
    rw [e]; clear e
    go_enter Tryz.func36, Tryz.ntmps36
    go_wp2
    go_ret
    exact ⟨ret_bool (by simp <;> omega), rfl⟩
def simB (l : List UInt8) : Bool := l.all (fun b => letN b.toNat || decide (48 ≤ b.toNat ∧ b.toNat ≤ 57)) && decide (0 < l.length)
set_option maxHeartbeats 800000 in
set_option maxRecDepth 100000 in
theorem simple_any (l : List UInt8) (w : World) (hl : l.length ≤ 2147483647) :
    Calls Tryz.prog 22 #[.string (txt l)] w fun e w' => e = .returned (.bool (simB l)) ∧ w' = w := by
  have hll := txt_size l
  go_enter Tryz.func22, Tryz.ntmps22
  go_wp2
  go_loopg [3] (l.length + 1) (fun gk i wr => ∃ k : Nat, k ≤ l.length ∧ i = .int .i64 k ∧ Hid ((l.take k).all (fun b => letN b.toNat || decide (48 ≤ b.toNat ∧ b.toNat ≤ 57)) = true) ∧ l.length - k < gk ∧ wr = w)
  case atStart => exact ⟨0, by omega, rfl, rfl, by omega, rfl⟩
  case round =>
    obtain ⟨k, hk, rfl, hall, hg, rfl⟩ := hrel
    by_cases hkl : k < l.length
    · obtain ⟨b, hbk⟩ : ∃ b, l[k]? = some b := ⟨l[k], List.getElem?_eq_getElem hkl⟩
      have hix := run_byte l k b hbk
      have HB := Lib.hid hbk
      clear hbk
      obtain ⟨gk, rfl⟩ : ∃ m, gk = m + 1 := ⟨gk - 1, by omega⟩
      have hb256 := b.toNat_lt
      obtain ⟨x, hx⟩ : ∃ x, b.toNat = x := ⟨_, rfl⟩
      rw [hx] at hix hb256
      have HX := Lib.hid hx
      clear hx
      obtain ⟨lt, hlet⟩ : ∃ q, letN x = q := ⟨_, rfl⟩
      have cL := Lib.hid fun W => hlet ▸ letter_any x W (by omega)
      have HLT := Lib.hid hlet
      clear hlet
      cases lt with
      | true =>
        go_wp2_with (go_at_call 36; refine (cL.out _).mono ?_; rintro e wr ⟨rfl, rfl⟩)
        go_roundg gk
        case rel =>
          refine ⟨k + 1, by omega, by go_num, ?_, by omega, rfl⟩
          show _ = _
          rw [List.take_add_one, HB.out, List.all_append, hall.out]
          simp [HX.out, HLT.out]
        case measure => omega
      | false =>
        by_cases c0 : x < 48
        · go_wp2_with (go_at_call 36; refine (cL.out _).mono ?_; rintro e wr ⟨rfl, rfl⟩)
          go_ret
          have hm : b ∈ l := List.mem_of_getElem? HB.out
          have hf : l.all (fun b => letN b.toNat || decide (48 ≤ b.toNat ∧ b.toNat ≤ 57)) = false := by
            rw [List.all_eq_false]
            exact ⟨b, hm, by simp [HX.out, HLT.out]; omega⟩
          exact ⟨by unfold simB; rw [hf]; rfl, rfl⟩
        by_cases c1 : x ≤ 57
        · go_wp2_with (go_at_call 36; refine (cL.out _).mono ?_; rintro e wr ⟨rfl, rfl⟩)
          go_roundg gk
          case rel =>
            refine ⟨k + 1, by omega, by go_num, ?_, by omega, rfl⟩
            show _ = _
            rw [List.take_add_one, HB.out, List.all_append, hall.out]
            simp [HX.out, HLT.out]; omega
          case measure => omega
        · go_wp2_with (go_at_call 36; refine (cL.out _).mono ?_; rintro e wr ⟨rfl, rfl⟩)
          go_ret
          have hm : b ∈ l := List.mem_of_getElem? HB.out
          have hf : l.all (fun b => letN b.toNat || decide (48 ≤ b.toNat ∧ b.toNat ≤ 57)) = false := by
            rw [List.all_eq_false]
            exact ⟨b, hm, by simp [HX.out, HLT.out]; omega⟩
          exact ⟨by unfold simB; rw [hf]; rfl, rfl⟩
    · obtain rfl : k = l.length := by omega
      have e := hall.out
      rw [List.take_length] at e
      by_cases h0 : 0 < l.length
      · have e2 : simB l = true := by unfold simB; rw [e, decide_eq_true h0]; rfl
        go_wp2
        go_ret
        exact ⟨ret_bool e2.symm, rfl⟩
      · have e2 : simB l = false := by unfold simB; rw [decide_eq_false h0, Bool.and_false]
        go_wp2
        go_ret
        exact ⟨ret_bool e2.symm, rfl⟩
set_option maxHeartbeats 1600000 in
theorem size_any (l : List (List UInt8)) (v : Value) (w : World) (hT : Tx w v l) (hz : l.length + szs l ≤ 4611686018427387903) :
    Calls Tryz.prog 26 #[v] w fun e w' => e = .returned (.int .i64 (l.length + szs l : Nat)) ∧ w' = w := by
  obtain ⟨ao, cap, rfl, _, hx⟩ := hT
  have HX := Lib.hid hx
  obtain ⟨n, hn⟩ : ∃ n, l.length = n := ⟨_, rfl⟩
  obtain ⟨Z, hZ⟩ : ∃ Z, n + szs l = Z := ⟨_, rfl⟩
  rw [hn] at hz
  rw [hn, hZ]
  rw [hZ] at hz
  have hnz : n ≤ Z := by omega
  have HN := Lib.hid hn
  have HZ := Lib.hid hZ
  clear hx hn hZ
  go_enter Tryz.func26, Tryz.ntmps26
  go_wp2
  go_loopg [3, 5, 10] (n + 1) (fun gk v3 v5 v10 wr => ∃ (k acc : Nat), v10 = .int .i64 k ∧ v3 = .int .i64 acc ∧ k ≤ n ∧ n - k < gk ∧ acc ≤ Z ∧ Hid (Z = acc + szs (l.drop k)) ∧ wr = w)
  case atStart => exact ⟨0, n, rfl, rfl, by omega, by omega, by have := HZ.out; omega, HZ.out.symm, rfl⟩
  case round =>
    obtain ⟨k, acc, rfl, rfl, hk, hg, ha, HR, hwr⟩ := hrel
    obtain rfl := hwr.symm
    by_cases hlt : k < n
    · obtain ⟨gk, rfl⟩ : ∃ m, gk = m + 1 := ⟨gk - 1, by omega⟩
      have hkl : k < l.length := by have := HN.out; omega
      have hx := List.getElem?_eq_getElem hkl
      have hd := List.drop_eq_getElem_cons hkl
      generalize l[k] = x at hx hd
      obtain ⟨g, o1, rfl, cx⟩ := HX.out k x hx
      have HR2 : Hid (Z = acc + x.length + szs (l.drop (k + 1))) := by
        show _ = _
        rw [HR.out, hd, szs_cons]; omega
      have hxl : acc + x.length ≤ Z := by have := HR2.out; omega
      have hts := txt_size x
      clear hx hd HR hkl
      go_wp2
      go_roundg gk
      case rel => exact ⟨k + 1, acc + x.length, by go_num, by (first | go_num | (rw [← hts]; go_num)), by omega, by omega, hxl, HR2.out, rfl⟩
      case measure => omega
    · have HF : Hid (Z = acc) := by
        show _ = _
        rw [HR.out, List.drop_eq_nil_of_le (by have := HN.out; omega)]; rfl
      clear HR
      go_wp2
      go_ret
      exact ⟨by rw [HF.out]; rfl, rfl⟩
def vis (b : UInt8) : Bool := decide (32 ≤ b.toNat ∧ b.toNat < 127)
def seenB (l : List (List UInt8)) : Bool := (l.all fun x => x.all vis) && decide (l.length + szs l ≤ 1000)
set_option maxHeartbeats 3200000 in
theorem eq_texts (a b : List (List UInt8)) (va vb : Value) (w : World) (ha : Tx w va a) (hb : Tx w vb b) (la : a.length ≤ 1000000) (_lb : b.length ≤ 1000000) :
    Calls Tryz.prog 21 #[va, vb] w fun e w' => e = .returned (.bool (decide (a = b))) ∧ Below w.heap.size w w' := by
  obtain ⟨ao, ca, rfl, hac, hax⟩ := ha
  obtain ⟨bo, cb, rfl, hbc, hbx⟩ := hb
  have HA := Lib.hid hax
  have HB := Lib.hid hbx
  obtain ⟨D, hD⟩ : ∃ D, decide (a = b) = D := ⟨_, rfl⟩
  rw [hD]
  have HD := Lib.hid hD
  clear hax hbx hD
  by_cases hl : (a.length : Int) = b.length
  · have HL := Lib.hid hl
    have hne : ((a.length : Int) != (b.length : Int)) = false := by simp [hl]
    obtain ⟨n, hn⟩ : ∃ n, a.length = n := ⟨_, rfl⟩
    have hnb : b.length = n := by omega
    have HN := Lib.hid hn
    have HNB := Lib.hid hnb
    have hnn : n ≤ 1000000 := by omega
    rw [hn, hnb] at hne
    rw [hn, hnb]
    clear hn hnb hl
    go_enter Tryz.func21, Tryz.ntmps21
    go_wp2
    go_loopg [5, 13] (n + 1) (fun gk v5 v13 wr => ∃ k : Nat, v13 = .int .i64 k ∧ k ≤ n ∧ n - k < gk ∧ Hid (D = decide (a.drop k = b.drop k)) ∧ Hid (Below w.heap.size w wr))
    case atStart => exact ⟨0, rfl, by omega, by omega, HD.out.symm, Below.refl _ _⟩
    case round =>
      obtain ⟨k, rfl, hk, hg, HR, HBw⟩ := hrel
      by_cases hlt : k < n
      · obtain ⟨gk, rfl⟩ : ∃ m, gk = m + 1 := ⟨gk - 1, by omega⟩
        have hka : k < a.length := by have := HN.out; omega
        have hkb : k < b.length := by have := HNB.out; omega
        have hx := List.getElem?_eq_getElem hka
        have hy := List.getElem?_eq_getElem hkb
        have hdx := List.drop_eq_getElem_cons hka
        have hdy := List.drop_eq_getElem_cons hkb
        generalize a[k] = x at hx hdx
        generalize b[k] = y at hy hdy
        obtain ⟨g, o1, rfl, cx⟩ := HA.out k x hx
        obtain ⟨g2, o2, rfl, cy⟩ := HB.out k y hy
        have cx2 : wr.cell? ⟨g, o1 + k, none⟩ = some (.string (txt x)) := (HBw.out.cell (World.block_lt_of_cell? w _ cx)).trans cx
        have cy2 : wr.cell? ⟨g2, o2 + k, none⟩ = some (.string (txt y)) := (HBw.out.cell (World.block_lt_of_cell? w _ cy)).trans cy
        have HR2 := Lib.hid HR.out
        have HDD : Hid (D = (decide (x = y) && decide (a.drop (k + 1) = b.drop (k + 1)))) := by
          show _ = _
          rw [HR.out, hdx, hdy]
          simp
        clear hx hy hdx hdy cx cy hka hkb HR HR2
        go_upto_region 6 with fail
        by_cases hxy : x = y
        · subst hxy
          have hq2 : ((txt x).toList == (txt x).toList) = true := by simp
          have HD3 : Hid (D = decide (a.drop (k + 1) = b.drop (k + 1))) := by show _ = _; rw [HDD.out]; simp
          clear HDD
          go_quiet (fail)
          go_wp2
          go_roundg gk
          case rel => exact ⟨k + 1, by go_num, by omega, by omega, HD3.out, ⟨HBw.out.os, HBw.out.tape, HBw.out.output, HBw.out.size, HBw.out.block⟩⟩
          case measure => omega
        · have HD3 : Hid (D = false) := by show _ = _; rw [HDD.out]; simp [hxy]
          have hq2 : ((txt x).toList == (txt y).toList) = false := by rw [txt_toList, txt_toList]; exact beq_eq_false_iff_ne.2 hxy
          clear HDD hxy
          go_quiet (fail)
          go_wp2
          go_ret
          exact ⟨by rw [HD3.out]; rfl, ⟨HBw.out.os, HBw.out.tape, HBw.out.output, HBw.out.size, HBw.out.block⟩⟩
      · have HF : Hid (D = true) := by
          show _ = _
          rw [HR.out, List.drop_eq_nil_of_le (by have := HN.out; omega), List.drop_eq_nil_of_le (by have := HNB.out; omega)]; simp
        clear HR
        go_wp2
        go_ret
        exact ⟨by rw [HF.out]; rfl, HBw.out⟩
  · have HF : Hid (D = false) := by
      show _ = _
      rw [← HD.out]
      exact decide_eq_false (fun h => hl (by rw [h]))
    have hne : ((a.length : Int) != (b.length : Int)) = true := by simpa using hl
    clear hl
    go_enter Tryz.func21, Tryz.ntmps21
    go_wp2
    go_ret
    exact ⟨by rw [HF.out]; rfl, Below.refl _ _⟩
end Go.Proofs.YtdfhidnhkeapbaaGreatDoor
