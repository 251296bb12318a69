/- The law FnCamelRoads: its walk. -/
import Derived.Test.YthanbbflemkomaaDoorCamel
import Derived.Test.YthanbbflemkomaaDoorCHelp
namespace Go.Proofs.YthanbbflemkomaaDoor
open Go.RowKit U8
open Go.Lib hiding intOf

theorem toCamel_any (l : List UInt8) (w : World) (hl : l.length ≤ 1000000) (hS : Spc w) :
    Calls Tryd.prog 16 #[.string (txt l)] w fun e w' => e = .returned (.string (txt (cam true true (trimSpaceD l)))) ∧ Below w.heap.size w w' := by
  have C := Lib.hid fun W (h : Spc W) => camel_any l true W hl h
  go_enter Tryd.func16, Tryd.ntmps16
  go_wp2_with (first
    | (go_at_call 64; refine (C.out _ hS).mono ?_; rintro e w1 ⟨rfl, hb1⟩)
    | go_in)
  go_ret
  exact ⟨rfl, hb1⟩
theorem toLowerCamel_any (l : List UInt8) (w : World) (hl : l.length ≤ 1000000) (hS : Spc w) :
    Calls Tryd.prog 17 #[.string (txt l)] w fun e w' => e = .returned (.string (txt (cam false true (trimSpaceD l)))) ∧ Below w.heap.size w w' := by
  have C := Lib.hid fun W (h : Spc W) => camel_any l false W hl h
  go_enter Tryd.func17, Tryd.ntmps17
  go_wp2_with (first
    | (go_at_call 64; refine (C.out _ hS).mono ?_; rintro e w1 ⟨rfl, hb1⟩)
    | go_in)
  go_ret
  exact ⟨rfl, hb1⟩
theorem cam_ex1 (w : World) (hS : Spc w) :
    Calls Tryd.prog 16 #[.string ⟨#[97, 110, 121, 95, 107, 105, 110, 100]⟩] w fun e w' => e = .returned (.string ⟨#[65, 110, 121, 75, 105, 110, 100]⟩) ∧ Below w.heap.size w w' := by
  have h := toCamel_any [97, 110, 121, 95, 107, 105, 110, 100] w (by decide) hS
  rw [show cam true true (trimSpaceD [97, 110, 121, 95, 107, 105, 110, 100]) = [65, 110, 121, 75, 105, 110, 100] by decide +kernel] at h
  exact h
theorem cam_ex2 (w : World) (hS : Spc w) :
    Calls Tryd.prog 17 #[.string ⟨#[97, 110, 121, 95, 107, 105, 110, 100]⟩] w fun e w' => e = .returned (.string ⟨#[97, 110, 121, 75, 105, 110, 100]⟩) ∧ Below w.heap.size w w' := by
  have h := toLowerCamel_any [97, 110, 121, 95, 107, 105, 110, 100] w (by decide) hS
  rw [show cam false true (trimSpaceD [97, 110, 121, 95, 107, 105, 110, 100]) = [97, 110, 121, 75, 105, 110, 100] by decide +kernel] at h
  exact h

/-- A byte that may stand in a text of words. -/
def sepC (b : UInt8) : Bool := isAln b || decide (b.toNat = 32 ∨ b.toNat = 95 ∨ b.toNat = 45)
def sepB (l : List UInt8) : Bool := l.all sepC && decide (l.length ≤ 4096)

theorem sepC_lt {b : UInt8} (h : sepC b = true) : b.toNat < 128 := by
  unfold sepC at h
  rw [isAln_nat, Bool.or_eq_true, decide_eq_true_eq, decide_eq_true_eq] at h
  omega
theorem swp_facts (f t : UInt8) (h : (f = 95 ∧ t = 45) ∨ (f = 45 ∧ t = 95)) (b : UInt8) :
    (isAln b = true → swpB f t b = b) ∧ isAln (swpB f t b) = isAln b ∧ camN (swpB f t b) = camN b ∧ isCap (swpB f t b) = isCap b ∧ isSp (swpB f t b) = isSp b ∧ (b.toNat < 128 → (swpB f t b).toNat < 128) := by
  unfold swpB
  by_cases e : b = f
  · rw [if_pos e, e]
    rcases h with ⟨rfl, rfl⟩ | ⟨rfl, rfl⟩ <;> decide
  · rw [if_neg e]
    exact ⟨fun _ => rfl, rfl, rfl, rfl, rfl, id⟩
theorem cam_swp (f t : UInt8) (h : (f = 95 ∧ t = 45) ∨ (f = 45 ∧ t = 95)) (cn e : Bool) (l : List UInt8) (hl : ∀ b ∈ l, b.toNat < 128) : cam cn e (trimSpaceD (l.map (swpB f t))) = cam cn e (trimSpaceD l) := by
  rw [trim_asc l hl, trim_asc (l.map (swpB f t)) (fun x hx => by obtain ⟨b, hb, rfl⟩ := List.mem_map.1 hx; exact (swp_facts f t h b).2.2.2.2.2 (hl b hb))]
  rw [trim_map (swpB f t) (fun b => (swp_facts f t h b).2.2.2.2.1)]
  exact cam_map (swpB f t) (fun b => (swp_facts f t h b).1) (fun b => (swp_facts f t h b).2.1) (fun b => (swp_facts f t h b).2.2.1) (fun b => (swp_facts f t h b).2.2.2.1) cn e _

end Go.Proofs.YthanbbflemkomaaDoor
