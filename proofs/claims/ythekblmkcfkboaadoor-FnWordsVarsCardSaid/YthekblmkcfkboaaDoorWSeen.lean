/- Helpers of the laws on lines of words: the size of texts, bytes that can be seen, whether a byte is there. -/
import Derived.Test.YthekblmkcfkboaaDoorWLaw
namespace Go.Proofs.YthekblmkcfkboaaDoor
open Go.RowKit U8
open Go.Lib hiding intOf

def szs (l : List (List UInt8)) : Nat := (l.map List.length).sum
theorem szs_cons (x : List UInt8) (l : List (List UInt8)) : szs (x :: l) = x.length + szs l := by simp [szs]
theorem szs_le {l : List (List UInt8)} {k : Nat} {x : List UInt8} (h : l[k]? = some x) : x.length ≤ szs l := by
  induction l generalizing k with
  | nil => simp at h
  | cons y l ih =>
    rw [szs_cons]
    cases k with
    | zero => simp at h; subst h; omega
    | succ k => have := ih (k := k) (by simpa using h); omega
set_option maxHeartbeats 1600000 in
theorem size_any (l : List (List UInt8)) (v : Value) (w : World) (hT : Tx w v l) (hz : l.length + szs l ≤ 4611686018427387903) :
    Calls Tryd.prog 24 #[v] w fun e w' => e = .returned (.int .i64 (l.length + szs l : Nat)) ∧ w' = w := by
  obtain ⟨ao, cap, rfl, hx⟩ := hT
  have HX := Lib.hid hx
  obtain ⟨n, hn⟩ : ∃ n, l.length = n := ⟨_, rfl⟩
  obtain ⟨Z, hZ⟩ : ∃ Z, n + szs l = Z := ⟨_, rfl⟩
  rw [hn] at hz
  rw [hn, hZ]
  rw [hZ] at hz
  have hnz : n ≤ Z := by omega
  have HN := Lib.hid hn
  have HZ := Lib.hid hZ
  clear hx hn hZ
  go_enter Tryd.func24, Tryd.ntmps24
  go_wp2
  go_loopg [3, 5, 10] (n + 1) (fun gk v3 v5 v10 wr => ∃ (k acc : Nat), v10 = .int .i64 k ∧ v3 = .int .i64 acc ∧ k ≤ n ∧ n - k < gk ∧ acc ≤ Z ∧ Hid (Z = acc + szs (l.drop k)) ∧ wr = w)
  case atStart => exact ⟨0, n, rfl, rfl, by omega, by omega, by have := HZ.out; omega, HZ.out.symm, rfl⟩
  case round =>
    obtain ⟨k, acc, rfl, rfl, hk, hg, ha, HR, hwr⟩ := hrel
    obtain rfl := hwr.symm
    by_cases hlt : k < n
    · obtain ⟨gk, rfl⟩ : ∃ m, gk = m + 1 := ⟨gk - 1, by omega⟩
      have hkl : k < l.length := by have := HN.out; omega
      have hx := List.getElem?_eq_getElem hkl
      have hd := List.drop_eq_getElem_cons hkl
      generalize l[k] = x at hx hd
      obtain ⟨g, o1, rfl, cx⟩ := HX.out k x hx
      have HR2 : Hid (Z = acc + x.length + szs (l.drop (k + 1))) := by
        show _ = _
        rw [HR.out, hd, szs_cons]; omega
      have hxl : acc + x.length ≤ Z := by have := HR2.out; omega
      have hts := txt_size x
      clear hx hd HR hkl
      go_wp2
      go_roundg gk
      case rel => exact ⟨k + 1, acc + x.length, by go_num, by (first | go_num | (rw [← hts]; go_num)), by omega, by omega, hxl, HR2.out, rfl⟩
      case measure => omega
    · have HF : Hid (Z = acc) := by
        show _ = _
        rw [HR.out, List.drop_eq_nil_of_le (by have := HN.out; omega)]; rfl
      clear HR
      go_wp2
      go_ret
      exact ⟨by rw [HF.out]; rfl, rfl⟩
def vis (b : UInt8) : Bool := decide (32 ≤ b.toNat ∧ b.toNat < 127)
def seenB (l : List (List UInt8)) : Bool := (l.all fun x => x.all vis) && decide (l.length + szs l ≤ 1000)
set_option maxHeartbeats 3200000 in
theorem seen_any (l : List (List UInt8)) (v : Value) (w : World) (hT : Tx w v l) (hz : l.length + szs l ≤ 4611686018427387903) :
    Calls Tryd.prog 16 #[v] w fun e w' => e = .returned (.bool (seenB l)) ∧ w' = w := by
  have CZ := Lib.hid (size_any l v w hT hz)
  obtain ⟨ao, cap, rfl, hx⟩ := hT
  have HX := Lib.hid hx
  have hll : l.length ≤ 4611686018427387903 := by omega
  obtain ⟨S, hS⟩ : ∃ S, seenB l = S := ⟨_, rfl⟩
  obtain ⟨Z, hZ⟩ : ∃ Z, l.length + szs l = Z := ⟨_, rfl⟩
  rw [hS]
  rw [hZ] at CZ hz
  have hS2 : S = ((l.all fun x => x.all vis) && decide (Z ≤ 1000)) := by rw [← hS, ← hZ]; rfl
  have HS := Lib.hid hS2
  have HSZ : Hid (∀ (k : Nat) (x : List UInt8), l[k]? = some x → x.length ≤ Z) := fun k x h => by have := szs_le h; omega
  clear hx hS hS2 hZ
  go_enter Tryd.func16, Tryd.ntmps16
  go_wp2
  go_loopg [4, 5, 8] (l.length + 1) (fun gk v4 v5 v8 wr => ∃ k : Nat, v8 = .int .i64 k ∧ k ≤ l.length ∧ l.length - k < gk ∧ Hid (S = (((l.drop k).all fun x => x.all vis) && decide (Z ≤ 1000))) ∧ wr = w)
  case atStart => exact ⟨0, rfl, by omega, by omega, HS.out, rfl⟩
  case round =>
    obtain ⟨k, rfl, hk, hg, HR, hwr⟩ := hrel
    obtain rfl := hwr.symm
    by_cases hlt : k < l.length
    · obtain ⟨g1, rfl⟩ : ∃ m, gk = m + 1 := ⟨gk - 1, by omega⟩
      have hx := List.getElem?_eq_getElem hlt
      have hd := List.drop_eq_getElem_cons hlt
      generalize l[k] = x at hx hd
      obtain ⟨g, o1, rfl, cx⟩ := HX.out k x hx
      have hxz := HSZ.out k x hx
      have hts := txt_size x
      have HR2 : Hid (S = ((x.all vis && (l.drop (k + 1)).all fun x => x.all vis) && decide (Z ≤ 1000))) := by
        show _ = _
        rw [HR.out, hd]; rfl
      clear hx hd HR
      go_wp2
      go_loopg [5] (x.length + 1) (fun gk v5 wr => ∃ j : Nat, v5 = .int .i64 j ∧ j ≤ x.length ∧ x.length - j < gk ∧ Hid (x.all vis = (x.drop j).all vis) ∧ wr = w)
      case atStart => exact ⟨0, rfl, by omega, by omega, rfl, rfl⟩
      case round =>
        obtain ⟨j, rfl, hj, hgj, HJ, hwr⟩ := hrel
        obtain rfl := hwr.symm
        by_cases hjl : j < x.length
        · obtain ⟨g2, rfl⟩ : ∃ m, gk = m + 1 := ⟨gk - 1, by omega⟩
          have hb := List.getElem?_eq_getElem hjl
          have hdj := List.drop_eq_getElem_cons hjl
          generalize x[j] = b at hb hdj
          have hby := run_byte x j b hb w
          have hb8 := b.toNat_lt
          have HJ2 : Hid (x.all vis = (vis b && (x.drop (j + 1)).all vis)) := by show _ = _; rw [HJ.out, hdj]; rfl
          clear hb hdj HJ
          by_cases h1 : (b.toNat : Int) < 32
          · have HF : Hid (S = false) := by show _ = _; rw [HR2.out, HJ2.out, show vis b = false by unfold vis; simp; omega]; simp
            clear HR2 HJ2
            go_wp2
            go_ret
            exact ⟨by rw [HF.out]; rfl, rfl⟩
          by_cases h2 : (127 : Int) ≤ b.toNat
          · have HF : Hid (S = false) := by show _ = _; rw [HR2.out, HJ2.out, show vis b = false by unfold vis; simp; omega]; simp
            clear HR2 HJ2
            go_wp2
            go_ret
            exact ⟨by rw [HF.out]; rfl, rfl⟩
          have HJ3 : Hid (x.all vis = (x.drop (j + 1)).all vis) := by show _ = _; rw [HJ2.out, show vis b = true by unfold vis; simp; omega]; simp
          clear HJ2
          go_wp2
          go_roundg g2
          case rel => exact ⟨j + 1, by go_num, by omega, by omega, HJ3.out, rfl⟩
          case measure => omega
        · have HR3 : Hid (S = (((l.drop (k + 1)).all fun x => x.all vis) && decide (Z ≤ 1000))) := by
            show _ = _
            rw [HR2.out, HJ.out, List.drop_eq_nil_of_le (by omega)]; rfl
          clear HR2 HJ
          go_wp2
          go_roundg g1
          case rel => exact ⟨k + 1, by go_num, by omega, by omega, HR3.out, rfl⟩
          case measure => omega
    · have HF : Hid (S = decide (Z ≤ 1000)) := by
        show _ = _
        rw [HR.out, List.drop_eq_nil_of_le (by omega)]; rfl
      clear HR
      go_wp2_with fail
      refine CZ.out.mono ?_
      rintro e wx ⟨rfl, hwx⟩
      obtain rfl := hwx.symm
      go_wp2
      go_ret
      exact ⟨by rw [HF.out]; exact ret_bool (decide_eq_decide.2 (by omega)), rfl⟩
set_option maxHeartbeats 1600000 in
theorem has_any (s : List UInt8) (c : UInt8) (w : World) (hz : s.length ≤ 4611686018427387903) :
    Calls Tryd.prog 17 #[.string (txt s), .int .u8 c.toNat] w fun e w' => e = .returned (.bool (s.any (· == c))) ∧ w' = w := by
  obtain ⟨S, hS⟩ : ∃ S, s.any (· == c) = S := ⟨_, rfl⟩
  rw [hS]
  have HS := Lib.hid hS.symm
  have hts := txt_size s
  clear hS
  go_enter Tryd.func17, Tryd.ntmps17
  go_wp2
  go_loopg [5] (s.length + 1) (fun gk v5 wr => ∃ j : Nat, v5 = .int .i64 j ∧ j ≤ s.length ∧ s.length - j < gk ∧ Hid (S = (s.drop j).any (· == c)) ∧ wr = w)
  case atStart => exact ⟨0, rfl, by omega, by omega, HS.out, rfl⟩
  case round =>
    obtain ⟨j, rfl, hj, hgj, HJ, hwr⟩ := hrel
    obtain rfl := hwr.symm
    by_cases hjl : j < s.length
    · obtain ⟨g2, rfl⟩ : ∃ m, gk = m + 1 := ⟨gk - 1, by omega⟩
      have hb := List.getElem?_eq_getElem hjl
      have hdj := List.drop_eq_getElem_cons hjl
      generalize s[j] = b at hb hdj
      have hby := run_byte s j b hb w
      have HJ2 : Hid (S = (b == c || (s.drop (j + 1)).any (· == c))) := by show _ = _; rw [HJ.out, hdj]; rfl
      clear hb hdj HJ
      by_cases hbc : b = c
      · subst hbc
        have HF : Hid (S = true) := by show _ = _; rw [HJ2.out]; simp
        have he : ((b.toNat : Int) == (b.toNat : Int)) = true := by simp
        clear HJ2
        go_wp2
        go_ret
        exact ⟨by rw [HF.out]; rfl, rfl⟩
      · have HF : Hid (S = (s.drop (j + 1)).any (· == c)) := by show _ = _; rw [HJ2.out, beq_eq_false_iff_ne.2 hbc]; rfl
        have he : ((b.toNat : Int) == (c.toNat : Int)) = false := by
          rw [beq_eq_false_iff_ne]
          intro h
          exact hbc (UInt8.toNat_inj.1 (by omega))
        clear HJ2 hbc
        go_wp2
        go_roundg g2
        case rel => exact ⟨j + 1, by go_num, by omega, by omega, HF.out, rfl⟩
        case measure => omega
    · have HF : Hid (S = false) := by
        show _ = _
        rw [HJ.out, List.drop_eq_nil_of_le (by omega)]; rfl
      clear HJ
      go_wp2
      go_ret
      exact ⟨by rw [HF.out]; rfl, rfl⟩

end Go.Proofs.YthekblmkcfkboaaDoor
