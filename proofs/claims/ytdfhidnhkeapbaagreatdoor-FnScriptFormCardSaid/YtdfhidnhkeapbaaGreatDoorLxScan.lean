/- The lexer's scanUnicodeLiteral, scanEscapeSequence. -/
import Derived.Test.YtdfhidnhkeapbaaGreatDoorLxHex
import Derived.Laws.OwnMore
namespace Go.Proofs.YtdfhidnhkeapbaaGreatDoor
open Go.RowKit U8
open Go.Lib hiding intOf

set_option maxHeartbeats 1600000 in
set_option maxRecDepth 100000 in
theorem pint16i (l : List UInt8) (w : World) (h0 : 0 < l.length) (h4 : l.length ≤ 4) (hx : ∀ b ∈ l, hexR b.toNat = true) :
    Calls Tryz.prog 155 #[.string (txt l), .int .i64 16, .int .i64 0] w fun e w' => e = .returned (.tuple #[.int .i64 (hexN l), .nilIface]) ∧ Below w.heap.size w w' := by
  have CU := Lib.hid (puint16 l w h0 h4 hx)
  have he : ((txt l).toList == ([] : List UInt8)) = false := by rw [txt_toList]; exact beq_eq_false_iff_ne.2 (fun e => by rw [e] at h0; simp at h0)
  have hb0 := List.getElem?_eq_getElem h0
  generalize l[0] = b at hb0
  have hxb := hx b (List.mem_of_getElem? hb0)
  have hby : ∀ W, (Instr.index 9 (.string (txt l)) (.int .i64 0)).run Tryz.prog W = .ok (.int .u8 b.toNat) W := fun W => run_byte l 0 b hb0 W
  have hn := hexN_le l hx l.length (Nat.le_refl _)
  rw [List.take_length] at hn
  have hn2 : hexN l ≤ 65535 := by
    have : 16 ^ l.length ≤ 16 ^ 4 := Nat.pow_le_pow_right (by decide) h4
    have e : (16 : Nat) ^ 4 = 65536 := by decide
    omega
  obtain ⟨z, hz⟩ : ∃ z : Int, (hexN l : Int) = z := ⟨_, rfl⟩
  have hz0 : 0 ≤ z := by omega
  have hz1 : z ≤ 65535 := by omega
  rw [hz] at CU ⊢
  obtain ⟨x, hxx⟩ : ∃ x, b.toNat = x := ⟨_, rfl⟩
  rw [hxx] at hby hxb
  have hne : ¬ x = 43 ∧ ¬ x = 45 ∧ x ≤ 255 := by
    unfold hexR at hxb
    simp only [Bool.or_eq_true, decide_eq_true_eq] at hxb
    omega
  obtain ⟨hn3, hn4, hn5⟩ := hne
  have e1 : ((x : Int) == 43) = false := beq_eq_false_iff_ne.2 (by omega)
  have e2 : ((x : Int) == 45) = false := beq_eq_false_iff_ne.2 (by omega)
  clear hb0 hxb hn hn2 hz hxx hn3 hn4 hx
  have hw0 : IntKind.u64.wrap 9223372036854775808 = 9223372036854775808 := by decide
  go_enter Tryz.func155, Tryz.ntmps155
  go_wp2_with fail
  refine CU.out.mono ?_
  rintro e w1 ⟨rfl, hb⟩
  have HB := Lib.hid hb
  clear hb CU
  go_wp2
  go_ret2
  exact ⟨rfl, HB.out⟩
set_option maxHeartbeats 1600000 in
set_option maxRecDepth 100000 in
theorem pint16 (l : List UInt8) (w : World) (h0 : 0 < l.length) (h4 : l.length ≤ 4) (hx : ∀ b ∈ l, hexR b.toNat = true) :
    Calls Tryz.prog 153 #[.string (txt l), .int .i64 16, .int .i64 0] w fun e w' => e = .returned (.tuple #[.int .i64 (hexN l), .nilIface]) ∧ Below w.heap.size w w' := by
  have CU := Lib.hid (pint16i l w h0 h4 hx)
  clear h0 h4 hx
  go_enter Tryz.func153, Tryz.ntmps153
  go_wp2_with fail
  refine CU.out.mono ?_
  rintro e w1 ⟨rfl, hb⟩
  have HB := Lib.hid hb
  clear hb CU
  go_wp2
  go_ret2
  exact ⟨rfl, HB.out⟩
end Go.Proofs.YtdfhidnhkeapbaaGreatDoor
