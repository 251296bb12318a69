/- strconv.ParseInt at one to four hexadecimal digits, base 16. -/
import Derived.Test.YtdfhidnhkeapbaaGreatDoorLxPred
namespace Go.Proofs.YtdfhidnhkeapbaaGreatDoor
open Go.RowKit U8
open Go.Lib hiding intOf

def hexN (l : List UInt8) : Nat := l.foldl (fun n b => n * 16 + hexV b.toNat) 0
theorem hexV_lt {r : Nat} (h : hexR r = true) : hexV r < 16 := by
  unfold hexR at h
  simp only [Bool.or_eq_true, decide_eq_true_eq] at h
  unfold hexV
  split
  · omega
  · split <;> omega
theorem hexN_snoc (l : List UInt8) (b : UInt8) : hexN (l ++ [b]) = hexN l * 16 + hexV b.toNat := by unfold hexN; rw [List.foldl_append]; rfl
theorem hexN_take (l : List UInt8) (k : Nat) (b : UInt8) (h : l[k]? = some b) : hexN (l.take (k + 1)) = hexN (l.take k) * 16 + hexV b.toNat := by
  rw [List.take_add_one, h]; exact hexN_snoc _ _
theorem hexN_le (l : List UInt8) (hx : ∀ b ∈ l, hexR b.toNat = true) : ∀ k, k ≤ l.length → hexN (l.take k) < 16 ^ k
  | 0, _ => by simp [hexN]
  | k + 1, h => by
    have hk : k < l.length := by omega
    have ih := hexN_le l hx k (by omega)
    rw [hexN_take l k l[k] (List.getElem?_eq_getElem hk), Nat.pow_succ]
    have := hexV_lt (hx _ (List.getElem_mem hk))
    omega
theorem low_a : ∀ x : Nat, 97 ≤ x → x ≤ 102 → bits .or .u8 (x : Int) 32 = x := by
  intro x h1 h2
  have : x = 97 ∨ x = 98 ∨ x = 99 ∨ x = 100 ∨ x = 101 ∨ x = 102 := by omega
  rcases this with rfl | rfl | rfl | rfl | rfl | rfl <;> decide
theorem low_A : ∀ x : Nat, 65 ≤ x → x ≤ 70 → bits .or .u8 (x : Int) 32 = (x : Int) + 32 := by
  intro x h1 h2
  have : x = 65 ∨ x = 66 ∨ x = 67 ∨ x = 68 ∨ x = 69 ∨ x = 70 := by omega
  rcases this with rfl | rfl | rfl | rfl | rfl | rfl <;> decide
set_option maxHeartbeats 3200000 in
set_option maxRecDepth 100000 in
theorem puint16 (l : List UInt8) (w : World) (h0 : 0 < l.length) (h4 : l.length ≤ 4) (hx : ∀ b ∈ l, hexR b.toNat = true) :
    Calls Tryz.prog 157 #[.string (txt l), .int .i64 16, .int .i64 0] w fun e w' => e = .returned (.tuple #[.int .u64 (hexN l), .nilIface]) ∧ Below w.heap.size w w' := by
  have hcv := fun W => run_text_bytes W (txt l)
  have hll := txt_size l
  have he : ((txt l).toList == ([] : List UInt8)) = false := by rw [txt_toList]; exact beq_eq_false_iff_ne.2 (fun e => by rw [e] at h0; simp at h0)
  have HX := Lib.hid hx
  have hN := hexN_le l hx
  have HN := Lib.hid hN
  clear hx hN
  have hw0 : IntKind.u64.wrap 18446744073709551616 = 0 := by decide
  have hw1 : IntKind.u64.wrap (-1) = 18446744073709551615 := by decide
  go_enter Tryz.func157, Tryz.ntmps157
  go_wp2
  have hc0 : ∀ j, j < l.length → (bytesWorld w 5 (txt l)).cell? ⟨w.heap.size, j, none⟩ = (byteCells l)[j]? := fun j hj => by
    rw [bytesWorld_cell w _ (txt l) j (by rw [txt_size]; exact hj), byteCells_get, txt_list, List.getElem?_eq_getElem hj]
    simp [List.getD, List.getElem?_eq_getElem hj]
  have hb0 : Below w.heap.size w (bytesWorld w 5 (txt l)) := bytesWorld_below (Below.refl _ _) (Nat.le_refl _) _ _
  have HC := Lib.hid hc0
  have HB := Lib.hid hb0
  clear hc0 hb0 hcv he
  generalize bytesWorld w 5 (txt l) = wb at *
  generalize grownCap w l.length 0 5 = cap at *
  obtain ⟨G, hG⟩ : ∃ G, w.heap.size = G := ⟨_, rfl⟩
  rw [hG] at HC ⊢
  have HB2 : Hid (Below w.heap.size w wb) := HB.out
  clear hG HB
  go_loopg [12, 13, 15, 16, 17, 101] (l.length + 1) (fun gk v12 v13 v15 v16 v17 v101 wr => ∃ (k : Nat) (n : Int), v12 = .bool false ∧ v13 = .int .u64 n ∧ v101 = .int .i64 k ∧ k ≤ l.length ∧ l.length - k < gk ∧ Hid (n = (hexN (l.take k) : Nat)) ∧ wr = wb)
  case atStart => exact ⟨0, 0, rfl, rfl, rfl, by omega, by omega, rfl, rfl⟩
  case round =>
    obtain ⟨k, n, rfl, rfl, rfl, hk, hg, HK, hwr⟩ := hrel
    obtain rfl := hwr.symm
    have hnk := HN.out k hk
    by_cases hlt : k < l.length
    · obtain ⟨gk, rfl⟩ : ∃ m, gk = m + 1 := ⟨gk - 1, by omega⟩
      have hn : 0 ≤ n ∧ n ≤ 4095 := by
        have h1 := HK.out
        have : 16 ^ k ≤ 16 ^ 3 := Nat.pow_le_pow_right (by decide) (by omega)
        have e : (16 : Nat) ^ 3 = 4096 := by decide
        omega
      obtain ⟨hn0, hn1⟩ := hn
      have hbk := List.getElem?_eq_getElem hlt
      generalize l[k] = b at hbk
      have hxb := HX.out b (List.mem_of_getElem? hbk)
      have hcc := HC.out k hlt
      rw [byteCells_get, hbk] at hcc
      have hcb : wb.cell? ⟨G, k, none⟩ = some (.int .u8 b.toNat) := hcc
      have HK2 : Hid (n * 16 + (hexV b.toNat : Nat) = (hexN (l.take (k + 1)) : Nat)) := by show _ = _; rw [hexN_take l k b hbk, HK.out]; omega
      obtain ⟨x, hx⟩ : ∃ x, b.toNat = x := ⟨_, rfl⟩
      rw [hx] at hxb hcb HK2
      clear hbk hcc hx hnk HK
      have hcase : (48 ≤ x ∧ x ≤ 57) ∨ (97 ≤ x ∧ x ≤ 102) ∨ (65 ≤ x ∧ x ≤ 70) := by
        unfold hexR at hxb
        simp only [Bool.or_eq_true, decide_eq_true_eq] at hxb
        omega
      clear hxb
      rcases hcase with ⟨h1, h2⟩ | ⟨h1, h2⟩ | ⟨h1, h2⟩
      · have hv : hexV x = x - 48 := by unfold hexV; rw [if_pos h2]
        rw [hv] at HK2
        have e95 : ((x : Int) == 95) = false := beq_eq_false_iff_ne.2 (by omega)
        have i1 : (48 : Int) ≤ x := by omega
        have i2 : (x : Int) ≤ 57 := by omega
        clear hv
        go_wp2
        go_roundg gk
        case rel => exact ⟨k + 1, _, rfl, by rw [show n * 16 + ((x : Int) - 48) = n * 16 + ((x - 48 : Nat) : Int) by omega], by go_num, by omega, by omega, HK2.out, rfl⟩
        case measure => omega
      · have hv : hexV x = x - 87 := by unfold hexV; rw [if_neg (by omega), if_neg (by omega)]
        rw [hv] at HK2
        have e95 : ((x : Int) == 95) = false := beq_eq_false_iff_ne.2 (by omega)
        have i1 : (48 : Int) ≤ x := by omega
        have i2 : ¬ (x : Int) ≤ 57 := by omega
        have hlo := low_a x h1 h2
        have i3 : (97 : Int) ≤ x := by omega
        have i4 : (x : Int) ≤ 122 := by omega
        have cL : Hid (Calls Tryz.prog 162 #[.int .u8 x] wb fun e w' => e = .returned (.int .u8 x) ∧ w' = wb) := by
          have := Tryz.internal_strconv_lower (x : Int) wb
          rw [hlo] at this
          exact this
        clear hv hlo
        go_wp2_with fail
        refine cL.out.mono ?_
        rintro e w1 ⟨rfl, hw1⟩
        obtain rfl := hw1.symm
        go_wp2_with fail
        refine cL.out.mono ?_
        rintro e w1 ⟨rfl, hw1⟩
        obtain rfl := hw1.symm
        go_wp2_with fail
        refine cL.out.mono ?_
        rintro e w1 ⟨rfl, hw1⟩
        obtain rfl := hw1.symm
        go_wp2
        go_roundg gk
        case rel => exact ⟨k + 1, _, rfl, by rw [show n * 16 + ((x : Int) - 97 + 10) = n * 16 + ((x - 87 : Nat) : Int) by omega], by go_num, by omega, by omega, HK2.out, rfl⟩
        case measure => omega
      · have hv : hexV x = x - 55 := by unfold hexV; rw [if_neg (by omega), if_pos h2]
        rw [hv] at HK2
        have e95 : ((x : Int) == 95) = false := beq_eq_false_iff_ne.2 (by omega)
        have i1 : (48 : Int) ≤ x := by omega
        have i2 : ¬ (x : Int) ≤ 57 := by omega
        have hlo := low_A x h1 h2
        have cL : Hid (Calls Tryz.prog 162 #[.int .u8 x] wb fun e w' => e = .returned (.int .u8 ((x : Int) + 32)) ∧ w' = wb) := by
          have := Tryz.internal_strconv_lower (x : Int) wb
          rw [hlo] at this
          exact this
        obtain ⟨y, hy⟩ : ∃ y : Int, (x : Int) + 32 = y := ⟨_, rfl⟩
        rw [hy] at cL
        have i3 : 97 ≤ y := by omega
        have i4 : y ≤ 102 := by omega
        have HY := Lib.hid hy
        clear hv hlo hy
        go_wp2_with fail
        refine cL.out.mono ?_
        rintro e w1 ⟨rfl, hw1⟩
        obtain rfl := hw1.symm
        go_wp2_with fail
        refine cL.out.mono ?_
        rintro e w1 ⟨rfl, hw1⟩
        obtain rfl := hw1.symm
        go_wp2_with fail
        refine cL.out.mono ?_
        rintro e w1 ⟨rfl, hw1⟩
        obtain rfl := hw1.symm
        go_wp2
        go_roundg gk
        case rel => exact ⟨k + 1, _, rfl, by rw [show n * 16 + (y - 97 + 10) = n * 16 + ((x - 55 : Nat) : Int) by have := HY.out; omega], by go_num, by omega, by omega, HK2.out, rfl⟩
        case measure => omega
    · have HF : Hid (n = (hexN l : Nat)) := by show _ = _; rw [HK.out, List.take_of_length_le (by omega)]
      clear HK hnk
      go_wp2
      go_ret2
      exact ⟨by rw [← HF.out]; rfl, HB2.out⟩
end Go.Proofs.YtdfhidnhkeapbaaGreatDoor
