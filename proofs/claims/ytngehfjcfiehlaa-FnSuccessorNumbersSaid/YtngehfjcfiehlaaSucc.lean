/- The contract of Successor: at a text whose last letter or digit needs no carry, and at digits. -/
import Derived.Test.YtngehfjcfiehlaaSBase
namespace Go.Proofs.Ytngehfjcfiehlaa
open Go.RowKit U8
open Go.Lib hiding intOf

def mark (y : Nat) : Prop := y < 48 ∨ (57 < y ∧ y < 65) ∨ (90 < y ∧ y < 97) ∨ (122 < y ∧ y < 128)
def plainInc (x : Nat) : Prop := (97 ≤ x ∧ x ≤ 121) ∨ (65 ≤ x ∧ x ≤ 89) ∨ (48 ≤ x ∧ x ≤ 56)
theorem enc_isEmpty (rs : List Nat) (h : rs ≠ []) : (txt (enc rs)).toList.isEmpty = false := by
  rw [txt_toList]
  cases rs with
  | nil => exact absurd rfl h
  | cons r rs =>
    have := enc1_pos r
    rw [enc_cons]
    cases e : enc1 r with
    | nil => rw [e] at this; simp at this
    | cons a t => rfl
theorem cells_at (a b : List Nat) (x : Nat) : (cells (a ++ x :: b))[a.length]? = some (.int .i32 (x : Int)) := by
  rw [cells_get, List.getElem?_append_right (Nat.le_refl _)]; simp
theorem set_at (a b : List Nat) (x u : Nat) : (a ++ x :: b).set a.length u = a ++ u :: b := by
  rw [List.set_append_right _ _ (Nat.le_refl _)]; simp

set_option maxHeartbeats 3200000 in
set_option maxRecDepth 100000 in
/-- The last letter or digit needs no carry. -/
theorem succ_marks (p m : List Nat) (x : Nat) (w : World) (hs : Scs (p ++ x :: m)) (hl : (p ++ x :: m).length ≤ 100000) (hx : plainInc x) (hm : ∀ y ∈ m, mark y) :
    Calls Try.prog 10 #[.string (txt (enc (p ++ x :: m)))] w fun e w' => e = .returned (.string (txt (enc (p ++ (x + 1) :: m)))) ∧ Below w.heap.size w w' := by
  have hne2 := enc_isEmpty (p ++ x :: m) (by simp)
  have hxs : Scs (p ++ (x + 1) :: m) := fun y hy => by
    rcases List.mem_append.1 hy with h | h
    · exact hs y (by simp [h])
    · rcases List.mem_cons.1 h with h | h
      · subst h; unfold plainInc at hx; unfold Sc; omega
      · exact hs y (by simp [h])
  have hn : (p ++ x :: m).length = p.length + m.length + 1 := by simp; omega
  have hb0 := runesWorld_below (Below.refl w.heap.size w) (Nat.le_refl _) (p ++ x :: m)
  have hcv := run_text_runes w (p ++ x :: m) hs (by omega)
  have HC := Lib.hid fun j hj => runesWorld_cell w (p ++ x :: m) j hj
  have HF := Lib.hid fun j => runesWorld_frozen w (p ++ x :: m) j
  generalize runesWorld w (p ++ x :: m) = W0 at *
  generalize grownCap w (p ++ x :: m).length 0 21 = cap at *
  have hck : W0.cell? ⟨w.heap.size, p.length, none⟩ = some (.int .i32 (x : Int)) := by rw [HC.out p.length (by omega), cells_at]
  have hfk := HF.out p.length
  have hconv : (convert 34 9 (.slice (some ⟨w.heap.size, 0, none⟩) (p ++ x :: m).length cap)).run Try.prog (W0.setCell ⟨w.heap.size, p.length, none⟩ (.int .i32 ((x : Int) + 1))) = .ok (.string (txt (enc (p ++ (x + 1) :: m)))) (W0.setCell ⟨w.heap.size, p.length, none⟩ (.int .i32 ((x : Int) + 1))) := by
    refine run_runes_text (p ++ (x + 1) :: m) hxs (by simp) fun j hj => ?_
    rw [← set_at p m x (x + 1), cells_setR _ _ _ _ hj]
    by_cases h : p.length = j
    · rw [if_pos h, ← h, World.cell?_setCell_same _ _ _ hck]; rfl
    · rw [if_neg h, World.cell?_setCell_other _ _ _ _ (fun e => h (congrArg Addr.off e))]
      exact HC.out j hj
  obtain ⟨n, hnn⟩ : ∃ n, (p ++ x :: m).length = n := ⟨_, rfl⟩
  have HMK := Lib.hid fun (I y : Nat) (h : (p ++ x :: m)[I]? = some y) => (show W0.cell? ⟨w.heap.size, I, none⟩ = some (.int .i32 (y : Int)) by rw [HC.out I (List.getElem?_eq_some_iff.1 h).1, cells_get, h]; rfl)
  have HM := Lib.hid fun (I k : Nat) (h1 : I + k = p.length + m.length) (h2 : k < m.length) => (show ∃ y, (p ++ x :: m)[I]? = some y ∧ mark y by
    refine ⟨m[I - p.length - 1]'(by omega), ?_, hm _ (List.getElem_mem _)⟩
    rw [List.getElem?_append_right (by omega), List.getElem?_cons, if_neg (by omega), List.getElem?_eq_getElem])
  have HFR := HF
  obtain ⟨S, hS⟩ : ∃ S, txt (enc (p ++ x :: m)) = S := ⟨_, rfl⟩
  rw [hnn] at hcv hconv hn hl
  have hn1 : n ≤ p.length + m.length + 1 := by omega
  have hn2 : p.length + m.length + 1 ≤ n := by omega
  rw [hS] at hcv hne2 ⊢
  clear hnn hS hs hm HC HF hn
  unfold plainInc at hx
  go_enter Try.func10, Try.ntmps10
  go_wp2
  go_loopg [4, 7, 8, 9, 10] (m.length + 2) (fun gk carry la lk sk i wr => ∃ I k : Nat, I + k = p.length + m.length ∧ k ≤ m.length ∧ carry = .int .i32 32 ∧ la = .int .i64 n ∧ lk = .int .i64 0 ∧ (∃ b, sk = .bool b) ∧ i = .int .i64 I ∧ m.length - k + 1 < gk ∧ wr = W0)
  case atStart => exact ⟨p.length + m.length, 0, by omega, by omega, rfl, rfl, rfl, ⟨_, rfl⟩, by go_num, by omega, rfl⟩
  case round =>
    obtain ⟨I, k, hik, hk, rfl, rfl, rfl, ⟨b, rfl⟩, rfl, hg, rfl⟩ := hrel
    by_cases hkm : k < m.length
    · obtain ⟨y, hy, hmk⟩ := HM.out I k hik hkm
      have hcy := HMK.out I y hy
      have hI : I < n := by omega
      obtain ⟨gk, rfl⟩ : ∃ m, gk = m + 1 := ⟨gk - 1, by omega⟩
      unfold mark at hmk
      clear hy hck hfk hconv
      have hI1 : 1 ≤ I := by omega
      rcases hmk with h1 | ⟨h1, h2⟩ | ⟨h1, h2⟩ | ⟨h1, h2⟩ <;> cases b
      · go_wp2
        go_roundg gk
        case rel => exact ⟨I - 1, k + 1, by omega, by omega, rfl, rfl, rfl, ⟨_, rfl⟩, by go_num, by omega, rfl⟩
        case measure => omega
      · go_wp2
        go_roundg gk
        case rel => exact ⟨I - 1, k + 1, by omega, by omega, rfl, rfl, rfl, ⟨_, rfl⟩, by go_num, by omega, rfl⟩
        case measure => omega
      · go_wp2
        go_roundg gk
        case rel => exact ⟨I - 1, k + 1, by omega, by omega, rfl, rfl, rfl, ⟨_, rfl⟩, by go_num, by omega, rfl⟩
        case measure => omega
      · go_wp2
        go_roundg gk
        case rel => exact ⟨I - 1, k + 1, by omega, by omega, rfl, rfl, rfl, ⟨_, rfl⟩, by go_num, by omega, rfl⟩
        case measure => omega
      · go_wp2
        go_roundg gk
        case rel => exact ⟨I - 1, k + 1, by omega, by omega, rfl, rfl, rfl, ⟨_, rfl⟩, by go_num, by omega, rfl⟩
        case measure => omega
      · go_wp2
        go_roundg gk
        case rel => exact ⟨I - 1, k + 1, by omega, by omega, rfl, rfl, rfl, ⟨_, rfl⟩, by go_num, by omega, rfl⟩
        case measure => omega
      · go_wp2
        go_roundg gk
        case rel => exact ⟨I - 1, k + 1, by omega, by omega, rfl, rfl, rfl, ⟨_, rfl⟩, by go_num, by omega, rfl⟩
        case measure => omega
      · go_wp2
        go_roundg gk
        case rel => exact ⟨I - 1, k + 1, by omega, by omega, rfl, rfl, rfl, ⟨_, rfl⟩, by go_num, by omega, rfl⟩
        case measure => omega
    · obtain rfl : I = p.length := by omega
      have hI : p.length < n := by omega
      rcases hx with ⟨h1, h2⟩ | ⟨h1, h2⟩ | ⟨h1, h2⟩ <;> cases b
      · go_wp2
        go_ret
        exact ⟨rfl, hb0.setCell (p := ⟨w.heap.size, p.length, none⟩) (Nat.le_refl _) _⟩
      · go_wp2
        go_ret
        exact ⟨rfl, hb0.setCell (p := ⟨w.heap.size, p.length, none⟩) (Nat.le_refl _) _⟩
      · go_wp2
        go_ret
        exact ⟨rfl, hb0.setCell (p := ⟨w.heap.size, p.length, none⟩) (Nat.le_refl _) _⟩
      · go_wp2
        go_ret
        exact ⟨rfl, hb0.setCell (p := ⟨w.heap.size, p.length, none⟩) (Nat.le_refl _) _⟩
      · go_wp2
        go_ret
        exact ⟨rfl, hb0.setCell (p := ⟨w.heap.size, p.length, none⟩) (Nat.le_refl _) _⟩
      · go_wp2
        go_ret
        exact ⟨rfl, hb0.setCell (p := ⟨w.heap.size, p.length, none⟩) (Nat.le_refl _) _⟩

end Go.Proofs.Ytngehfjcfiehlaa
