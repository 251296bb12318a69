/- The law FnTypedBack: its walk. -/
import Derived.Test.YtekcjdbhlcolpaaDoorTNum
namespace Go.Proofs.YtekcjdbhlcolpaaDoor
open Go.RowKit U8
open Go.Lib hiding intOf

theorem pub12 : parseUintB 64 (⟨#[49, 50]⟩ : ByteArray).data.toList = .ok 12 := by decide
theorem wrap_i64 {z : Int} (h0 : -9223372036854775808 ≤ z) (h1 : z ≤ 9223372036854775807) : IntKind.i64.wrap z = z := by
  unfold IntKind.wrap
  simp [IntKind.signed, IntKind.bits]
  omega

set_option maxHeartbeats 3200000 in
set_option maxRecDepth 100000 in
theorem tb_sp (n : Int) (S : ByteArray) (w : World) (_hS : S.size ≤ 20) (HE : Hid (Er w))
    (c12 : Hid (∀ W, Calls Tryd.prog 11 #[.string ⟨#[49, 50]⟩, .bool true, .int .u64 3] W fun e w' => e = .returned (.int .u64 12) ∧ Below W.heap.size W w'))
    (cN : Hid (∀ W, Calls Tryd.prog 12 #[.int .u64 n] W fun e w' => e = .returned (.string S) ∧ Below W.heap.size W w'))
    (cU : Hid (∀ W, Calls Tryd.prog 11 #[.string S, .bool true, .int .u64 5] W fun e w' => e = .returned (.int .u64 n) ∧ Below W.heap.size W w'))
    (cU2 : Hid (∀ W, Er W → Calls Tryd.prog 13 #[.string S, .bool true, .int .u32 5] W fun e w' => e = .returned (.int .u32 n) ∧ Below W.heap.size W w'))
    (cI : Hid (∀ W, Er W → Calls Tryd.prog 14 #[.string S, .bool true, .int .i64 5] W fun e w' => e = .returned (.int .i64 n) ∧ Below W.heap.size W w'))
    (h32 : n < 4294967296) (hw32 : IntKind.u32.wrap n = n)
    (_h63 : n < 9223372036854775808) (hw64 : IntKind.i64.wrap n = n) :
    Calls Tryd.prog 5 #[.int .u64 n, .bool false] w fun e w' => e = .returned (.bool true) ∧ Below w.heap.size w w' := by
  go_enter Tryd.func5, Tryd.ntmps5
  go_wp2_with fail
  refine (c12.out _).mono ?_
  rintro e w1 ⟨rfl, hb1⟩
  go_wp2_with fail
  refine (cN.out _).mono ?_
  rintro e w2 ⟨rfl, hb2⟩
  have hc2 := chain hb1 hb2
  go_wp2_with fail
  refine (cU.out _).mono ?_
  rintro e w3 ⟨rfl, hb3⟩
  have hc3 := chain hc2 hb3
  go_wp2_with fail
  refine (cU2.out _ (HE.out.below hc3)).mono ?_
  rintro e w4 ⟨rfl, hb4⟩
  have hc4 := chain hc3 hb4
  go_wp2_with fail
  refine (cI.out _ (HE.out.below hc4)).mono ?_
  rintro e w5 ⟨rfl, hb5⟩
  have hc5 := chain hc4 hb5
  go_wp2
  go_ret
  exact ⟨rfl, hc5⟩

set_option maxHeartbeats 3200000 in
set_option maxRecDepth 100000 in
theorem tb_sn (n : Int) (S : ByteArray) (w : World) (hS : S.size ≤ 20) (HE : Hid (Er w))
    (c12 : Hid (∀ W, Calls Tryd.prog 11 #[.string ⟨#[49, 50]⟩, .bool true, .int .u64 3] W fun e w' => e = .returned (.int .u64 12) ∧ Below W.heap.size W w'))
    (cN : Hid (∀ W, Calls Tryd.prog 12 #[.int .u64 n] W fun e w' => e = .returned (.string S) ∧ Below W.heap.size W w'))
    (cU : Hid (∀ W, Calls Tryd.prog 11 #[.string S, .bool true, .int .u64 5] W fun e w' => e = .returned (.int .u64 n) ∧ Below W.heap.size W w'))
    (cU2 : Hid (∀ W, Er W → Calls Tryd.prog 13 #[.string S, .bool true, .int .u32 5] W fun e w' => e = .returned (.int .u32 n) ∧ Below W.heap.size W w'))
    (cI : Hid (∀ W, Er W → Calls Tryd.prog 14 #[.string (⟨#[45]⟩ ++ S), .bool true, .int .i64 5] W fun e w' => e = .returned (.int .i64 (-n)) ∧ Below W.heap.size W w'))
    (h32 : n < 4294967296) (hw32 : IntKind.u32.wrap n = n)
    (_h63 : n < 9223372036854775808) (hw64 : IntKind.i64.wrap n = n) (hwn : IntKind.i64.wrap (-n) = -n) :
    Calls Tryd.prog 5 #[.int .u64 n, .bool true] w fun e w' => e = .returned (.bool true) ∧ Below w.heap.size w w' := by
  go_enter Tryd.func5, Tryd.ntmps5
  go_wp2_with fail
  refine (c12.out _).mono ?_
  rintro e w1 ⟨rfl, hb1⟩
  go_wp2_with fail
  refine (cN.out _).mono ?_
  rintro e w2 ⟨rfl, hb2⟩
  have hc2 := chain hb1 hb2
  go_wp2_with fail
  refine (cU.out _).mono ?_
  rintro e w3 ⟨rfl, hb3⟩
  have hc3 := chain hc2 hb3
  go_wp2_with fail
  refine (cU2.out _ (HE.out.below hc3)).mono ?_
  rintro e w4 ⟨rfl, hb4⟩
  have hc4 := chain hc3 hb4
  go_wp2_with fail
  refine (cI.out _ (HE.out.below hc4)).mono ?_
  rintro e w5 ⟨rfl, hb5⟩
  have hc5 := chain hc4 hb5
  go_wp2
  go_ret
  exact ⟨rfl, hc5⟩

set_option maxHeartbeats 3200000 in
set_option maxRecDepth 100000 in
theorem tb_mp (n : Int) (S : ByteArray) (w : World) (_hS : S.size ≤ 20) (HE : Hid (Er w))
    (c12 : Hid (∀ W, Calls Tryd.prog 11 #[.string ⟨#[49, 50]⟩, .bool true, .int .u64 3] W fun e w' => e = .returned (.int .u64 12) ∧ Below W.heap.size W w'))
    (cN : Hid (∀ W, Calls Tryd.prog 12 #[.int .u64 n] W fun e w' => e = .returned (.string S) ∧ Below W.heap.size W w'))
    (cU : Hid (∀ W, Calls Tryd.prog 11 #[.string S, .bool true, .int .u64 5] W fun e w' => e = .returned (.int .u64 n) ∧ Below W.heap.size W w'))
    (cU2 : Hid (∀ W, Er W → Calls Tryd.prog 13 #[.string S, .bool true, .int .u32 5] W fun e w' => e = .returned (.int .u32 5) ∧ Below W.heap.size W w'))
    (cI : Hid (∀ W, Er W → Calls Tryd.prog 14 #[.string S, .bool true, .int .i64 5] W fun e w' => e = .returned (.int .i64 n) ∧ Below W.heap.size W w'))
    (h32 : 4294967296 ≤ n)
    (h63 : n < 9223372036854775808) (hw64 : IntKind.i64.wrap n = n) :
    Calls Tryd.prog 5 #[.int .u64 n, .bool false] w fun e w' => e = .returned (.bool true) ∧ Below w.heap.size w w' := by
  go_enter Tryd.func5, Tryd.ntmps5
  go_wp2_with fail
  refine (c12.out _).mono ?_
  rintro e w1 ⟨rfl, hb1⟩
  go_wp2_with fail
  refine (cN.out _).mono ?_
  rintro e w2 ⟨rfl, hb2⟩
  have hc2 := chain hb1 hb2
  go_wp2_with fail
  refine (cU.out _).mono ?_
  rintro e w3 ⟨rfl, hb3⟩
  have hc3 := chain hc2 hb3
  go_wp2_with fail
  refine (cU2.out _ (HE.out.below hc3)).mono ?_
  rintro e w4 ⟨rfl, hb4⟩
  have hc4 := chain hc3 hb4
  go_wp2_with fail
  refine (cI.out _ (HE.out.below hc4)).mono ?_
  rintro e w5 ⟨rfl, hb5⟩
  have hc5 := chain hc4 hb5
  go_wp2
  go_ret
  exact ⟨rfl, hc5⟩

set_option maxHeartbeats 3200000 in
set_option maxRecDepth 100000 in
theorem tb_mn (n : Int) (S : ByteArray) (w : World) (hS : S.size ≤ 20) (HE : Hid (Er w))
    (c12 : Hid (∀ W, Calls Tryd.prog 11 #[.string ⟨#[49, 50]⟩, .bool true, .int .u64 3] W fun e w' => e = .returned (.int .u64 12) ∧ Below W.heap.size W w'))
    (cN : Hid (∀ W, Calls Tryd.prog 12 #[.int .u64 n] W fun e w' => e = .returned (.string S) ∧ Below W.heap.size W w'))
    (cU : Hid (∀ W, Calls Tryd.prog 11 #[.string S, .bool true, .int .u64 5] W fun e w' => e = .returned (.int .u64 n) ∧ Below W.heap.size W w'))
    (cU2 : Hid (∀ W, Er W → Calls Tryd.prog 13 #[.string S, .bool true, .int .u32 5] W fun e w' => e = .returned (.int .u32 5) ∧ Below W.heap.size W w'))
    (cI : Hid (∀ W, Er W → Calls Tryd.prog 14 #[.string (⟨#[45]⟩ ++ S), .bool true, .int .i64 5] W fun e w' => e = .returned (.int .i64 (-n)) ∧ Below W.heap.size W w'))
    (h32 : 4294967296 ≤ n)
    (h63 : n < 9223372036854775808) (hw64 : IntKind.i64.wrap n = n) (hwn : IntKind.i64.wrap (-n) = -n) :
    Calls Tryd.prog 5 #[.int .u64 n, .bool true] w fun e w' => e = .returned (.bool true) ∧ Below w.heap.size w w' := by
  go_enter Tryd.func5, Tryd.ntmps5
  go_wp2_with fail
  refine (c12.out _).mono ?_
  rintro e w1 ⟨rfl, hb1⟩
  go_wp2_with fail
  refine (cN.out _).mono ?_
  rintro e w2 ⟨rfl, hb2⟩
  have hc2 := chain hb1 hb2
  go_wp2_with fail
  refine (cU.out _).mono ?_
  rintro e w3 ⟨rfl, hb3⟩
  have hc3 := chain hc2 hb3
  go_wp2_with fail
  refine (cU2.out _ (HE.out.below hc3)).mono ?_
  rintro e w4 ⟨rfl, hb4⟩
  have hc4 := chain hc3 hb4
  go_wp2_with fail
  refine (cI.out _ (HE.out.below hc4)).mono ?_
  rintro e w5 ⟨rfl, hb5⟩
  have hc5 := chain hc4 hb5
  go_wp2
  go_ret
  exact ⟨rfl, hc5⟩

set_option maxHeartbeats 3200000 in
set_option maxRecDepth 100000 in
theorem tb_big (n : Int) (S : ByteArray) (neg : Bool) (w : World) (_hS : S.size ≤ 20) (HE : Hid (Er w))
    (c12 : Hid (∀ W, Calls Tryd.prog 11 #[.string ⟨#[49, 50]⟩, .bool true, .int .u64 3] W fun e w' => e = .returned (.int .u64 12) ∧ Below W.heap.size W w'))
    (cN : Hid (∀ W, Calls Tryd.prog 12 #[.int .u64 n] W fun e w' => e = .returned (.string S) ∧ Below W.heap.size W w'))
    (cU : Hid (∀ W, Calls Tryd.prog 11 #[.string S, .bool true, .int .u64 5] W fun e w' => e = .returned (.int .u64 n) ∧ Below W.heap.size W w'))
    (cU2 : Hid (∀ W, Er W → Calls Tryd.prog 13 #[.string S, .bool true, .int .u32 5] W fun e w' => e = .returned (.int .u32 5) ∧ Below W.heap.size W w'))
    (cI : Hid (∀ W, Er W → Calls Tryd.prog 14 #[.string S, .bool true, .int .i64 5] W fun e w' => e = .returned (.int .i64 5) ∧ Below W.heap.size W w'))
    (_h32 : 4294967296 ≤ n)
    (h63 : 9223372036854775808 ≤ n) :
    Calls Tryd.prog 5 #[.int .u64 n, .bool neg] w fun e w' => e = .returned (.bool true) ∧ Below w.heap.size w w' := by
  go_enter Tryd.func5, Tryd.ntmps5
  go_wp2_with fail
  refine (c12.out _).mono ?_
  rintro e w1 ⟨rfl, hb1⟩
  go_wp2_with fail
  refine (cN.out _).mono ?_
  rintro e w2 ⟨rfl, hb2⟩
  have hc2 := chain hb1 hb2
  go_wp2_with fail
  refine (cU.out _).mono ?_
  rintro e w3 ⟨rfl, hb3⟩
  have hc3 := chain hc2 hb3
  go_wp2_with fail
  refine (cU2.out _ (HE.out.below hc3)).mono ?_
  rintro e w4 ⟨rfl, hb4⟩
  have hc4 := chain hc3 hb4
  go_wp2_with fail
  refine (cI.out _ (HE.out.below hc4)).mono ?_
  rintro e w5 ⟨rfl, hb5⟩
  have hc5 := chain hc4 hb5
  go_wp2
  go_ret
  exact ⟨rfl, hc5⟩

theorem neg_text (l : List UInt8) : ((⟨#[45]⟩ : ByteArray) ++ txt l) = txt (45 :: l) := txt_append [45] l
theorem law_typedBack (u : Int) (neg : Bool) (w : World) (h0 : 0 ≤ u) (h1 : u ≤ 18446744073709551615) (hE : Er w) :
    Calls Tryd.prog 5 #[.int .u64 u, .bool neg] w fun e w' => e = .returned (.bool true) ∧ Below w.heap.size w w' := by
  obtain ⟨n, rfl⟩ : ∃ n : Nat, u = n := ⟨u.toNat, by omega⟩
  have hn : n < 18446744073709551616 := by omega
  have hl := dg_len 20 n (by omega) (by omega)
  have hS : (txt (dg n)).size ≤ 20 := by rw [txt_size]; exact hl
  have e64 : parseUintB 64 (txt (dg n)).data.toList = .ok n := by rw [txt_list]; exact pub64 n hn
  have e32 : parseUintB 32 (txt (dg n)).data.toList = if n < 4294967296 then .ok n else .range := by rw [txt_list]; exact pub32 n
  have eI : parseIntB 64 (txt (dg n)).data.toList = if n < 9223372036854775808 then .ok (n : Int) else .range := by rw [txt_list]; exact pib_plus n hn
  have c12 := Lib.hid fun W => uintOf_ok ⟨#[49, 50]⟩ 12 3 W (by decide) pub12
  have cN := Lib.hid fun W => number_any n W hn
  have cU := Lib.hid fun W => uintOf_ok (txt (dg n)) n 5 W (by omega) e64
  have HE := Lib.hid hE
  by_cases h32 : n < 4294967296
  · rw [if_pos h32] at e32
    rw [if_pos (by omega)] at eI
    have hw32 : IntKind.u32.wrap (n : Int) = n := wrap_same (by decide) (by omega) (by show _ < (2 : Int) ^ 32; omega)
    have cU2 : Hid (∀ W, Er W → _) := fun W (_ : Er W) => uint32Of_ok (txt (dg n)) n 5 W (by omega) e32 hw32
    cases neg with
    | false =>
      have cI : Hid (∀ W, Er W → _) := fun W (_ : Er W) => intOf_ok (txt (dg n)) n 5 W (by omega) eI
      exact tb_sp n (txt (dg n)) w hS HE c12 cN cU cU2 cI (by omega) hw32 (by omega) (wrap_i64 (by omega) (by omega))
    | true =>
      have eM : parseIntB 64 ((⟨#[45]⟩ : ByteArray) ++ txt (dg n)).data.toList = .ok (-(n : Int)) := by rw [neg_text, txt_list]; exact pib_minus n (by omega)
      have hM : ((⟨#[45]⟩ : ByteArray) ++ txt (dg n)).size ≤ 1000 := by rw [neg_text, txt_size, List.length_cons]; omega
      have cI : Hid (∀ W, Er W → _) := fun W (_ : Er W) => intOf_ok _ (-(n : Int)) 5 W hM eM
      exact tb_sn n (txt (dg n)) w hS HE c12 cN cU cU2 cI (by omega) hw32 (by omega) (wrap_i64 (by omega) (by omega)) (wrap_i64 (by omega) (by omega))
  · rw [if_neg h32] at e32
    have cU2 : Hid (∀ W, Er W → _) := fun W (h : Er W) => uint32Of_no (txt (dg n)) 5 W (by omega) e32 h
    by_cases h63 : n < 9223372036854775808
    · rw [if_pos h63] at eI
      cases neg with
      | false =>
        have cI : Hid (∀ W, Er W → _) := fun W (_ : Er W) => intOf_ok (txt (dg n)) n 5 W (by omega) eI
        exact tb_mp n (txt (dg n)) w hS HE c12 cN cU cU2 cI (by omega) (by omega) (wrap_i64 (by omega) (by omega))
      | true =>
        have eM : parseIntB 64 ((⟨#[45]⟩ : ByteArray) ++ txt (dg n)).data.toList = .ok (-(n : Int)) := by rw [neg_text, txt_list]; exact pib_minus n (by omega)
        have hM : ((⟨#[45]⟩ : ByteArray) ++ txt (dg n)).size ≤ 1000 := by rw [neg_text, txt_size, List.length_cons]; omega
        have cI : Hid (∀ W, Er W → _) := fun W (_ : Er W) => intOf_ok _ (-(n : Int)) 5 W hM eM
        exact tb_mn n (txt (dg n)) w hS HE c12 cN cU cU2 cI (by omega) (by omega) (wrap_i64 (by omega) (by omega)) (wrap_i64 (by omega) (by omega))
    · rw [if_neg h63] at eI
      have cI : Hid (∀ W, Er W → _) := fun W (h : Er W) => intOf_no (txt (dg n)) 5 W (by omega) eI h
      exact tb_big n (txt (dg n)) neg w hS HE c12 cN cU cU2 cI (by omega) (by omega)

end Go.Proofs.YtekcjdbhlcolpaaDoor
