/- Plain lemmas: tabs that become spaces. No program is in sight. -/
import Derived.Test.YtkaoafhkllomcaaDoorPWid
namespace Go.Proofs.YtkaoafhkllomcaaDoor
open Go.Lib U8

def widN (r : Nat) : Nat := (wid r).toNat
theorem widN_int (r : Nat) : ((widN r : Nat) : Int) = wid r := by have := wid_bd r; unfold widN; omega
theorem widN_le (r : Nat) : widN r ≤ 2 := by have := wid_bd r; unfold widN; omega
/-- What the tabs of a text become, from a column on. -/
def tb (z : Nat) : Nat → List Nat → List Nat
  | _, [] => []
  | c, r :: rs => if r = 9 then List.replicate (z - c % z) 32 ++ tb z (c + (z - c % z)) rs else if r = 10 then 10 :: tb z 0 rs else r :: tb z (c + widN r) rs
theorem tb_nil (z c : Nat) : tb z c [] = [] := rfl
theorem tb_tab (z c : Nat) (rs : List Nat) : tb z c (9 :: rs) = List.replicate (z - c % z) 32 ++ tb z (c + (z - c % z)) rs := by rw [tb, if_pos rfl]
theorem tb_line (z c : Nat) (rs : List Nat) : tb z c (10 :: rs) = 10 :: tb z 0 rs := by rw [tb, if_neg (by omega), if_pos rfl]
theorem tb_other (z c r : Nat) (rs : List Nat) (h9 : r ≠ 9) (h10 : r ≠ 10) : tb z c (r :: rs) = r :: tb z (c + widN r) rs := by rw [tb, if_neg h9, if_neg h10]
theorem tb_len (z : Nat) (hz : 1 ≤ z) : ∀ (rs : List Nat) (c : Nat), (tb z c rs).length ≤ z * rs.length
  | [], c => by simp [tb_nil]
  | r :: rs, c => by
    rw [List.length_cons, Nat.mul_succ]
    by_cases h9 : r = 9
    · subst h9
      have := tb_len z hz rs (c + (z - c % z))
      rw [tb_tab, List.length_append, List.length_replicate]
      omega
    · by_cases h10 : r = 10
      · subst h10
        have := tb_len z hz rs 0
        rw [tb_line, List.length_cons]; omega
      · have := tb_len z hz rs (c + widN r)
        rw [tb_other z c r rs h9 h10, List.length_cons]; omega
theorem tb_scs (z : Nat) : ∀ (rs : List Nat) (c : Nat), Scs rs → Scs (tb z c rs)
  | [], c, _ => by intro x hx; simp [tb_nil] at hx
  | r :: rs, c, h => by
    have hr : Sc r := h.head
    have ht : Scs rs := h.tail
    by_cases h9 : r = 9
    · subst h9
      rw [tb_tab]
      intro x hx
      rcases List.mem_append.1 hx with hx | hx
      · have := (List.mem_replicate.1 hx).2; subst this; unfold Sc; omega
      · exact tb_scs z rs _ ht x hx
    · by_cases h10 : r = 10
      · subst h10
        rw [tb_line]
        intro x hx
        rcases List.mem_cons.1 hx with rfl | hx
        · exact hr
        · exact tb_scs z rs _ ht x hx
      · rw [tb_other z c r rs h9 h10]
        intro x hx
        rcases List.mem_cons.1 hx with rfl | hx
        · exact hr
        · exact tb_scs z rs _ ht x hx
theorem enc_le4 : ∀ l : List Nat, (enc l).length ≤ 4 * l.length
  | [] => by simp [enc]
  | r :: l => by
    have h1 := enc_le4 l
    have h2 := enc1_le r
    rw [enc_cons, List.length_append, List.length_cons]; omega
/-- The step to the next tab stop, as the reference's loop counts it. -/
theorem stop_step (c z k : Nat) (hz : 1 ≤ z) (hk : 1 ≤ k) (hle : k ≤ z - c % z) : ((c + k) % z = 0) ↔ k = z - c % z := by
  have hm : c % z < z := Nat.mod_lt _ hz
  have hd := Nat.div_add_mod c z
  constructor
  · intro h
    by_cases e : k = z - c % z
    · exact e
    · have hlt : c % z + k < z := by omega
      have : (c + k) % z = c % z + k := by
        conv => lhs; rw [← hd, Nat.add_assoc]
        rw [Nat.mul_add_mod, Nat.mod_eq_of_lt hlt]
      omega
  · rintro rfl
    have : c + (z - c % z) = z * (c / z) + z * 1 := by omega
    rw [this, ← Nat.mul_add, Nat.mul_mod_right]

end Go.Proofs.YtkaoafhkllomcaaDoor
