/- The small functions on which the laws of cases stand: size, few, told, swapped, separated. -/
import Derived.Test.YthanbbflemkomaaDoorCAscii
namespace Go.Proofs.YthanbbflemkomaaDoor
open Go.RowKit U8
open Go.Lib hiding intOf

def sizes (l : List ByteArray) : Nat := (l.map ByteArray.size).sum
theorem sizes_cons (s : ByteArray) (l : List ByteArray) : sizes (s :: l) = s.size + sizes l := by simp [sizes]
theorem sizes_snoc (l : List ByteArray) (s : ByteArray) : sizes (l ++ [s]) = sizes l + s.size := by simp [sizes]

set_option maxHeartbeats 800000 in
theorem size_any (l : List ByteArray) (g c : Nat) (w : World) (hc : ∀ j s, l[j]? = some s → w.cell? ⟨g, j, none⟩ = some (.string s)) (hl : l.length + sizes l ≤ 1000000000000) :
    Calls Tryd.prog 45 #[.slice (some ⟨g, 0, none⟩) l.length c] w fun e w' => e = .returned (.int .i64 ((l.length + sizes l : Nat) : Int)) ∧ w' = w := by
  have HC := Lib.hid hc
  clear hc
  go_enter Tryd.func45, Tryd.ntmps45
  go_wp2
  go_loopg [10, 3] (l.length + 1) (fun gk i n wr => ∃ p rest : List ByteArray, Hid (l = p ++ rest) ∧ i = .int .i64 p.length ∧ n = .int .i64 ((l.length + sizes p : Nat) : Int) ∧ rest.length < gk ∧ wr = w)
  case atStart => exact ⟨[], l, rfl, rfl, rfl, by omega, rfl⟩
  case round =>
    obtain ⟨p, rest, HT, rfl, rfl, hg, rfl⟩ := hrel
    have hpl : p.length + rest.length = l.length := by have h := congrArg List.length HT.out; rw [List.length_append] at h; omega
    cases rest with
    | nil =>
      rw [List.length_nil] at hpl
      go_wp2
      go_ret
      have e := HT.out
      rw [List.append_nil] at e
      exact ⟨by rw [e]; rfl, rfl⟩
    | cons s rest =>
      rw [List.length_cons] at hpl hg
      have hcell := HC.out p.length s (by rw [HT.out, List.getElem?_append_right (Nat.le_refl _), Nat.sub_self]; rfl)
      have hsz : sizes p + s.size ≤ sizes l := by rw [HT.out]; simp [sizes]
      obtain ⟨gk, rfl⟩ : ∃ m, gk = m + 1 := ⟨gk - 1, by omega⟩
      go_wp2
      go_roundg gk
      case rel => exact ⟨p ++ [s], rest, by show _ = _; rw [HT.out]; simp, by rw [List.length_append]; go_num, by rw [sizes_snoc]; go_num, by omega, rfl⟩
      case measure => omega
theorem few_any (l : List ByteArray) (g c : Nat) (w : World) (hc : ∀ j s, l[j]? = some s → w.cell? ⟨g, j, none⟩ = some (.string s)) (hl : l.length + sizes l ≤ 1000000000000) :
    Calls Tryd.prog 20 #[.slice (some ⟨g, 0, none⟩) l.length c] w fun e w' => e = .returned (.bool (decide (l.length + sizes l ≤ 400))) ∧ w' = w := by
  have C := Lib.hid (size_any l g c w hc hl)
  obtain ⟨n, hn⟩ : ∃ n, l.length + sizes l = n := ⟨_, rfl⟩
  rw [hn] at C ⊢
  clear hn hc hl
  go_enter Tryd.func20, Tryd.ntmps20
  go_wp2_with (go_at_call 45; refine C.out.mono ?_; rintro e w1 ⟨rfl, rfl⟩)
  go_ret
  exact ⟨ret_bool (decide_eq_decide.2 (by omega)), rfl⟩
/-- few at one text, and at two. -/
theorem few1 (s : ByteArray) (b : Bool) (w : World) (hs : s.size ≤ 2147483647) (hb : decide (1 + s.size ≤ 400) = b) :
    Calls Tryd.prog 20 #[.slice (some ⟨w.heap.size, 0, none⟩) 1 1] (w.alloc (.cells #[.string s] 9)) fun e w' => e = .returned (.bool b) ∧ Below w.heap.size w w' := by
  subst hb
  refine (few_any [s] w.heap.size 1 _ ?_ (by simp [sizes]; omega)).mono ?_
  · intro j x hj
    match j, hj with
    | 0, hj => simp at hj; subst hj; simp
  · rintro e w' ⟨rfl, rfl⟩
    exact ⟨by simp [sizes], (Below.refl _ _).alloc (Nat.le_refl _) _⟩
theorem few2 (s t : ByteArray) (b : Bool) (w : World) (hs : s.size ≤ 2147483647) (ht : t.size ≤ 2147483647) (hb : decide (2 + (s.size + t.size) ≤ 400) = b) :
    Calls Tryd.prog 20 #[.slice (some ⟨w.heap.size, 0, none⟩) 2 2] (w.alloc (.cells #[.string s, .string t] 9)) fun e w' => e = .returned (.bool b) ∧ Below w.heap.size w w' := by
  subst hb
  refine (few_any [s, t] w.heap.size 2 _ ?_ (by simp [sizes]; omega)).mono ?_
  · intro j x hj
    match j, hj with
    | 0, hj => simp at hj; subst hj; simp
    | 1, hj => simp at hj; subst hj; simp
  · rintro e w' ⟨rfl, rfl⟩
    exact ⟨by simp [sizes], (Below.refl _ _).alloc (Nat.le_refl _) _⟩

def swpB (f t b : UInt8) : UInt8 := if b = f then t else b
end Go.Proofs.YthanbbflemkomaaDoor
