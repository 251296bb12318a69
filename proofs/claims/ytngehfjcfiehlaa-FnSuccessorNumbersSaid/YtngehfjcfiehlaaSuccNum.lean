/- The contract of Successor at digits. -/
import Derived.Test.YtngehfjcfiehlaaSucc
namespace Go.Proofs.Ytngehfjcfiehlaa
open Go.RowKit U8
open Go.Lib hiding intOf

theorem nines_list (P : List Nat) (m j : Nat) : P ++ (List.replicate (m + 1) 57 ++ List.replicate j 48) = (P ++ List.replicate m 57) ++ 57 :: List.replicate j 48 := by
  rw [List.replicate_succ']; simp
theorem zeros_list (P : List Nat) (m j : Nat) : (P ++ List.replicate m 57) ++ 48 :: List.replicate j 48 = P ++ (List.replicate m 57 ++ List.replicate (j + 1) 48) := by
  rw [List.replicate_succ]; simp
theorem pre_len (P : List Nat) (m : Nat) : (P ++ List.replicate m 57).length = P.length + m := by simp

theorem enc_le4' : ∀ l : List Nat, (enc l).length ≤ 4 * l.length
  | [] => by simp [enc]
  | r :: l => by
    have h1 := enc_le4' l
    have h2 := enc1_le r
    rw [enc_cons, List.length_append, List.length_cons]; omega
/-- One nine turned into a zero. -/
theorem nine_step (W : World) (g : Nat) (P : List Nat) (m j I : Nat) (hI : I = P.length + m) (hc : ∀ t, t < P.length + (m + 1 + j) → W.cell? ⟨g, t, none⟩ = (cells (P ++ (List.replicate (m + 1) 57 ++ List.replicate j 48)))[t]?) :
    W.cell? ⟨g, I, none⟩ = some (.int .i32 57) ∧ ∀ t, t < P.length + (m + 1 + j) → (W.setCell ⟨g, I, none⟩ (.int .i32 48)).cell? ⟨g, t, none⟩ = (cells (P ++ (List.replicate m 57 ++ List.replicate (j + 1) 48)))[t]? := by
  subst hI
  have h0 : W.cell? ⟨g, P.length + m, none⟩ = some (.int .i32 57) := by
    rw [hc _ (by omega), nines_list, ← pre_len, cells_at]; rfl
  refine ⟨h0, fun t ht => ?_⟩
  rw [← zeros_list, ← set_at _ _ 57 48, cells_setR _ _ _ _ (by simp; omega), pre_len]
  by_cases h : P.length + m = t
  · rw [if_pos h, ← h, World.cell?_setCell_same _ _ _ h0]; rfl
  · rw [if_neg h, World.cell?_setCell_other _ _ _ _ (fun e => h (congrArg Addr.off e)), hc t ht, nines_list]

set_option maxHeartbeats 3200000 in
set_option maxRecDepth 100000 in
theorem succ_carry (p : List Nat) (x k : Nat) (w : World) (hs : Scs (p ++ x :: List.replicate k 57)) (hl : (p ++ x :: List.replicate k 57).length ≤ 100000) (hx : 48 ≤ x ∧ x ≤ 56) :
    Calls Try.prog 10 #[.string (txt (enc (p ++ x :: List.replicate k 57)))] w fun e w' => e = .returned (.string (txt (enc (p ++ (x + 1) :: List.replicate k 48)))) ∧ Below w.heap.size w w' := by
  have hne2 := enc_isEmpty (p ++ x :: List.replicate k 57) (by simp)
  have hxs : Scs (p ++ (x + 1) :: List.replicate k 48) := fun y hy => by
    rcases List.mem_append.1 hy with h | h
    · exact hs y (by simp [h])
    · rcases List.mem_cons.1 h with h | h
      · subst h; unfold Sc; omega
      · have := (List.mem_replicate.1 h).2; subst this; unfold Sc; omega
  have hn : (p ++ x :: List.replicate k 57).length = p.length + k + 1 := by simp; omega
  have hb0 := runesWorld_below (Below.refl w.heap.size w) (Nat.le_refl _) (p ++ x :: List.replicate k 57)
  have hcv := run_text_runes w (p ++ x :: List.replicate k 57) hs (by omega)
  have HC := Lib.hid fun j hj => runesWorld_cell w (p ++ x :: List.replicate k 57) j hj
  have HF := Lib.hid fun j => runesWorld_frozen w (p ++ x :: List.replicate k 57) j
  generalize runesWorld w (p ++ x :: List.replicate k 57) = W0 at *
  generalize grownCap w (p ++ x :: List.replicate k 57).length 0 21 = cap at *
  have hC0 : ∀ t, t < p.length + k + 1 → W0.cell? ⟨w.heap.size, t, none⟩ = (cells ((p ++ [x]) ++ (List.replicate k 57 ++ List.replicate 0 48)))[t]? := fun t ht => by
    rw [HC.out t (by omega)]; simp
  have HC0 := Lib.hid hC0
  have HCONV : Hid (∀ W : World, (∀ t, t < p.length + k + 1 → W.cell? ⟨w.heap.size, t, none⟩ = (cells ((p ++ [x]) ++ (List.replicate 0 57 ++ List.replicate k 48)))[t]?) → W.cell? ⟨w.heap.size, p.length, none⟩ = some (.int .i32 (x : Int)) ∧
      (convert 34 9 (.slice (some ⟨w.heap.size, 0, none⟩) (p ++ x :: List.replicate k 57).length cap)).run Try.prog (W.setCell ⟨w.heap.size, p.length, none⟩ (.int .i32 ((x : Int) + 1))) = .ok (.string (txt (enc (p ++ (x + 1) :: List.replicate k 48)))) (W.setCell ⟨w.heap.size, p.length, none⟩ (.int .i32 ((x : Int) + 1)))) := fun W hW => by
    have e : (p ++ [x]) ++ (List.replicate 0 57 ++ List.replicate k 48) = p ++ x :: List.replicate k 48 := by simp
    rw [e] at hW
    have h0 : W.cell? ⟨w.heap.size, p.length, none⟩ = some (.int .i32 (x : Int)) := by rw [hW _ (by omega), cells_at]
    refine ⟨h0, run_runes_text (p ++ (x + 1) :: List.replicate k 48) hxs (by simp) fun j hj => ?_⟩
    rw [← set_at p _ x (x + 1), cells_setR _ _ _ _ (by simp at hj ⊢; omega)]
    by_cases h : p.length = j
    · rw [if_pos h, ← h, World.cell?_setCell_same _ _ _ h0]; rfl
    · rw [if_neg h, World.cell?_setCell_other _ _ _ _ (fun e => h (congrArg Addr.off e))]
      exact hW j (by omega)
  obtain ⟨n, hnn⟩ : ∃ n, (p ++ x :: List.replicate k 57).length = n := ⟨_, rfl⟩
  obtain ⟨S, hS⟩ : ∃ S, txt (enc (p ++ x :: List.replicate k 57)) = S := ⟨_, rfl⟩
  rw [hnn] at hcv HCONV hn hl
  rw [hS] at hcv hne2 ⊢
  have hn1 : n ≤ p.length + k + 1 := by omega
  have hn2 : p.length + k + 1 ≤ n := by omega
  clear hnn hS hs HC hC0 hn
  go_enter Try.func10, Try.ntmps10
  go_wp2
  go_loopg [4, 7, 8, 9, 10] (k + 2) (fun gk carry la lk sk i wr => ∃ I j m : Nat, m + j = k ∧ I = p.length + m ∧ (∃ c, carry = .int .i32 c) ∧ (∃ q, la = .int .i64 q) ∧ (∃ q, lk = .int .i64 q) ∧ sk = .bool false ∧ i = .int .i64 I ∧ m + 1 < gk ∧
    Hid (∀ t, t < p.length + k + 1 → wr.cell? ⟨w.heap.size, t, none⟩ = (cells ((p ++ [x]) ++ (List.replicate m 57 ++ List.replicate j 48)))[t]?) ∧ Hid (∀ t, wr.frozen? ⟨w.heap.size, t, none⟩ = false) ∧ Below w.heap.size w wr)
  case atStart => exact ⟨p.length + k, 0, k, by omega, rfl, ⟨_, rfl⟩, ⟨_, rfl⟩, ⟨_, rfl⟩, rfl, by go_num, by omega, HC0.out, HF.out, hb0⟩
  case round =>
    obtain ⟨I, j, m, hmj, hI, ⟨c, rfl⟩, ⟨q1, rfl⟩, ⟨q2, rfl⟩, rfl, rfl, hg, hc, hf, hb⟩ := hrel
    have hfk := hf.out I
    cases m with
    | zero =>
      obtain rfl : j = k := by omega
      obtain ⟨hck, hconv⟩ := HCONV.out wr hc.out
      rw [Nat.add_zero] at hI
      rw [← hI] at hck hconv
      have hIn : I < n := by omega
      clear hI
      go_wp2
      go_ret
      exact ⟨rfl, hb.setCell (p := ⟨w.heap.size, I, none⟩) (Nat.le_refl _) _⟩
    | succ m =>
      have hst := nine_step wr w.heap.size (p ++ [x]) m j I (by simp; omega) (fun t ht => hc.out t (by simp at ht; omega))
      have hck := hst.1
      have HST := Lib.hid hst.2
      have hIn : I < n := by omega
      have hI1 : 1 ≤ I := by omega
      have HI := Lib.hid hI
      obtain ⟨gk, rfl⟩ : ∃ m, gk = m + 1 := ⟨gk - 1, by omega⟩
      clear hst hI
      go_wp2
      have hI := HI.out
      go_roundg gk
      case rel =>
        refine ⟨I - 1, j + 1, m, by omega, by omega, ⟨_, rfl⟩, ⟨_, rfl⟩, ⟨_, rfl⟩, rfl, by go_num, by omega, ?_, ?_, hb.setCell (p := ⟨w.heap.size, I, none⟩) (Nat.le_refl _) _⟩
        · show ∀ t, t < p.length + k + 1 → _
          intro t ht
          exact HST.out t (by simp; omega)
        · show ∀ t, _
          intro t
          rw [World.frozen?_setCell]; exact hf.out t
      case measure => omega

set_option maxHeartbeats 3200000 in
set_option maxRecDepth 100000 in
theorem succ_nines (k : Nat) (w : World) (hk : 1 ≤ k) (hl : k ≤ 100000) :
    Calls Try.prog 10 #[.string (txt (enc (List.replicate k 57)))] w fun e w' => e = .returned (.string (txt (enc (49 :: List.replicate k 48)))) ∧ Below w.heap.size w w' := by
  have hne2 := enc_isEmpty (List.replicate k 57) (by cases k <;> simp at hk ⊢)
  have hs : Scs (List.replicate k 57) := fun y hy => by have := (List.mem_replicate.1 hy).2; subst this; unfold Sc; omega
  have hb0 := runesWorld_below (Below.refl w.heap.size w) (Nat.le_refl _) (List.replicate k 57)
  have hcv := run_text_runes w (List.replicate k 57) hs (by simp; omega)
  have hz0 := runesWorld_size w (List.replicate k 57)
  have HC := Lib.hid fun j hj => runesWorld_cell w (List.replicate k 57) j hj
  have HF := Lib.hid fun j => runesWorld_frozen w (List.replicate k 57) j
  generalize runesWorld w (List.replicate k 57) = W0 at *
  rw [List.length_replicate] at hcv
  generalize grownCap w k 0 21 = cap at *
  have HC0 : Hid (∀ t, t < k → W0.cell? ⟨w.heap.size, t, none⟩ = (cells ([] ++ (List.replicate k 57 ++ List.replicate 0 48)))[t]?) := fun t ht => by
    rw [HC.out t (by simpa using ht)]; simp
  obtain ⟨S, hS⟩ : ∃ S, txt (enc (List.replicate k 57)) = S := ⟨_, rfl⟩
  rw [hS] at hcv hne2 ⊢
  have hz : w.heap.size < W0.heap.size := by omega
  clear hS hs HC hz0
  go_enter Try.func10, Try.ntmps10
  go_wp2
  go_loopg [4, 7, 8, 9, 10] (k + 2) (fun gk carry la lk sk i wr => ∃ j m : Nat, m + j = k ∧ carry = .int .i32 (if j = 0 then 32 else 49) ∧ la = .int .i64 m ∧ (∃ q, lk = .int .i64 q) ∧ sk = .bool false ∧ i = .int .i64 ((m : Int) - 1) ∧ m + 1 < gk ∧
    Hid (∀ t, t < k → wr.cell? ⟨w.heap.size, t, none⟩ = (cells ([] ++ (List.replicate m 57 ++ List.replicate j 48)))[t]?) ∧ Hid (∀ t, wr.frozen? ⟨w.heap.size, t, none⟩ = false) ∧ w.heap.size < wr.heap.size ∧ Below w.heap.size w wr)
  case atStart => exact ⟨0, k, by omega, rfl, rfl, ⟨_, rfl⟩, rfl, by go_num, by omega, HC0.out, HF.out, hz, hb0⟩
  case round =>
    obtain ⟨j, m, hmj, rfl, rfl, ⟨q2, rfl⟩, rfl, rfl, hg, hc, hf, hzr, hb⟩ := hrel
    cases m with
    | zero =>
      obtain rfl : j = k := by omega
      rename World => v9
      rw [if_neg (by omega)]
      have hB : w.heap.size + 1 ≤ v9.heap.size := hzr
      have hkb : (j : Int) + 4 = ((j + 4 : Nat) : Int) := by omega
      have HKB := Lib.hid hkb
      clear hkb
      go_wp2_with fail
      rw [HKB.out]
      refine (bld_grow (w.heap.size + 1) v9.heap.size _ _ hB (heap_alloc_new v9 _) (by simp; omega) (by omega)).mono ?_
      rintro e w3 ⟨rfl, hbl3, hb3⟩
      have hc3 : Below (w.heap.size + 1) v9 w3 := ((Below.refl _ _).alloc hB _).trans hb3
      go_wp2_with (go_at_call 16; refine (bld_rune (w.heap.size + 1) v9.heap.size [] 49 _ hbl3 (by unfold Sc; omega) (by simp) (Nat.le_trans hB hc3.size)).mono ?_; rintro e w4 ⟨rfl, hbl4, hb4, _⟩)
      have hc4 := hc3.trans hb4
      have HCL : Hid (∀ q, q < j → v9.cell? ⟨w.heap.size, q, none⟩ = some (.int .i32 48)) := fun q hq => by
        rw [hc.out q hq, List.nil_append, List.replicate_zero, List.nil_append, cells_get, List.getElem?_replicate, if_pos hq]; rfl
      clear hc hf
      go_loopg [116] (j + 1) (fun gk i wr => ∃ q : Nat, q ≤ j ∧ i = .int .i64 q ∧ j - q < gk ∧ Hid (Bld (w.heap.size + 1) v9.heap.size (enc (49 :: List.replicate q 48)) wr) ∧ Below (w.heap.size + 1) v9 wr)
      case atStart => exact ⟨0, by omega, rfl, by omega, hbl4, hc4⟩
      case round =>
        obtain ⟨q, hq, rfl, hg2, hblq, hbq⟩ := hrel
        have hBq := Nat.le_trans hB hbq.size
        by_cases hqj : q < j
        · obtain ⟨gk, rfl⟩ : ∃ m, gk = m + 1 := ⟨gk - 1, by omega⟩
          have hcq : wr.cell? ⟨w.heap.size, q, none⟩ = some (.int .i32 48) := by rw [hbq.cell (by simp), HCL.out q hqj]
          have hlen : (enc (49 :: List.replicate q 48)).length + 4 ≤ 140737488355328 := by
            have h := enc_le4' (49 :: List.replicate q 48)
            simp at h ⊢
            omega
          go_wp2_with (go_at_call 16; refine (bld_rune (w.heap.size + 1) v9.heap.size _ 48 _ hblq.out (by unfold Sc; omega) hlen hBq).mono ?_; rintro e w5 ⟨rfl, hbl5, hb5, _⟩)
          go_roundg gk
          case rel =>
            refine ⟨q + 1, by omega, by go_num, by omega, ?_, hbq.trans hb5⟩
            show Bld _ _ _ _
            rw [List.replicate_succ', ← List.cons_append, enc_append, enc_one]
            exact hbl5
          case measure => omega
        · obtain rfl : q = j := by omega
          go_wp2_with (go_at_call 17; refine (bld_string (w.heap.size + 1) v9.heap.size _ _ hblq.out hBq).mono ?_; rintro e w5 ⟨rfl, _, hb5, _⟩)
          go_ret
          exact ⟨rfl, hb.trans ((hbq.trans hb5).mono (by omega))⟩
    | succ m =>
      have hfk := hf.out m
      have hst := nine_step wr w.heap.size [] m j m (by simp) (fun t ht => hc.out t (by simp at ht; omega))
      have hck := hst.1
      have HST := Lib.hid hst.2
      have hm1 : ((m + 1 : Nat) : Int) - 1 = (m : Int) := by omega
      have hmn : m < k := by omega
      have hm0 : ((m + 1 : Nat) : Int) = (m : Int) + 1 := by omega
      rw [hm1]
      obtain ⟨gk, rfl⟩ : ∃ m, gk = m + 1 := ⟨gk - 1, by omega⟩
      clear hst hm1 hm0
      go_wp2
      go_roundg gk
      case rel =>
        refine ⟨j + 1, m, by omega, by rw [if_neg (by omega)], rfl, ⟨_, rfl⟩, rfl, rfl, by omega, ?_, ?_, by simpa using hzr, hb.setCell (p := ⟨w.heap.size, m, none⟩) (Nat.le_refl _) _⟩
        · show ∀ t, t < k → _
          intro t ht
          exact HST.out t (by simp; omega)
        · show ∀ t, _
          intro t
          rw [World.frozen?_setCell]; exact hf.out t
      case measure => omega

end Go.Proofs.Ytngehfjcfiehlaa
