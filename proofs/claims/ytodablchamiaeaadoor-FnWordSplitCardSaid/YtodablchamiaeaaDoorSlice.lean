/- Contracts of Slice, Insert and Len, at texts that are valid and places in range. -/
import Derived.Test.YtodablchamiaeaaDoorRunes
import Derived.BigQuiet
import Derived.Deep.QuietTactic
import Derived.Defers
import Derived.Recover
namespace Go.Proofs.YtodablchamiaeaaDoor
open Go.RowKit U8
open Go.Lib hiding intOf

theorem drop_split (rs : List Nat) (i : Nat) : rs = rs.take i ++ rs.drop i := (List.take_append_drop i rs).symm
theorem enc_take_le (rs : List Nat) (i : Nat) : (enc (rs.take i)).length ≤ (enc rs).length := by
  have := congrArg (fun l => (enc l).length) (drop_split rs i)
  simp only [enc_append, List.length_append] at this
  omega
theorem enc_take_ge (rs : List Nat) (i : Nat) (h : i ≤ rs.length) : i ≤ (enc (rs.take i)).length := by
  have := enc_length_ge (rs.take i)
  rw [List.length_take, Nat.min_eq_left h] at this
  exact this
theorem txt_from (rs : List Nat) (i : Nat) : (txt (enc rs)).extract (enc (rs.take i)).length (txt (enc rs)).size = txt (enc (rs.drop i)) := by
  have := txt_skip (enc (rs.take i)) (enc (rs.drop i))
  rw [← enc_append, List.take_append_drop] at this
  exact this
theorem txt_between (a b c : List Nat) : (txt (enc (a ++ b ++ c))).extract (enc a).length ((enc a).length + (enc b).length) = txt (enc b) := by
  rw [txt_extract]
  congr 1
  rw [enc_append, enc_append, List.take_append_of_le_length (by simp), List.take_of_length_le (by simp), List.drop_left]

theorem at_place (rs : List Nat) (k : Nat) (hs : Scs rs) (hk : k < rs.length) : ∃ r, Sc r ∧ rs.drop k = r :: rs.drop (k + 1) ∧ (enc (rs.take (k + 1))).length = (enc (rs.take k)).length + (enc1 r).length := by
  refine ⟨rs[k], hs _ (List.getElem_mem hk), List.drop_eq_getElem_cons hk, ?_⟩
  rw [List.take_succ_eq_append_getElem hk, enc_append, List.length_append, enc_one]

set_option maxHeartbeats 1600000 in
set_option maxRecDepth 100000 in
/-- FROM A PLACE TO THE END. -/
theorem slice_end (rs : List Nat) (i : Nat) (w : World) (hs : Scs rs) (hl : (enc rs).length ≤ 1000000) (hi : i ≤ rs.length) (hT : Tabs w) :
    Calls Tryd.prog 56 #[.string (txt (enc rs)), .int .i64 i, .int .i64 (-1)] w fun e w' => e = .returned (.string (txt (enc (rs.drop i)))) ∧ Below w.heap.size w w' := by
  have hsz : (txt (enc rs)).size ≤ 1000000 := by rw [txt_size]; exact hl
  have hll := enc_length_ge rs
  have hle := enc_take_le rs i
  have hlt : (enc (rs.take i)).length ≤ (txt (enc rs)).size := by rw [txt_size]; exact hle
  have HF := Lib.hid (txt_from rs i)
  go_enter Tryd.func56, Tryd.ntmps56
  go_wp2
  go_loopg [0, 1, 8] (i + 1) (fun gk s n p wr => ∃ k : Nat, k ≤ i ∧ s = .string (txt (enc (rs.drop k))) ∧ n = .int .i64 ((i : Int) - k) ∧ p = .int .i64 (enc (rs.take k)).length ∧ i - k < gk ∧ Below w.heap.size w wr)
  case atStart => exact ⟨0, by omega, rfl, by simp, rfl, by omega, Below.refl _ _⟩
  case round =>
    obtain ⟨k, hk, rfl, rfl, rfl, hg, hb⟩ := hrel
    by_cases hki : k < i
    · obtain ⟨r, hr, hd, hpl⟩ := at_place rs k hs (by omega)
      have hTr := hT.below hb
      have hp := enc_size_pos r (rs.drop (k + 1))
      have hle2 := enc1_size_le r (rs.drop (k + 1))
      have hle3 := enc_take_le rs k
      have hle4 := enc_take_le rs (k + 1)
      have HR := Lib.hid (rest_enc r (rs.drop (k + 1)))
      have HP := Lib.hid hpl
      rw [hpl] at hle4
      rw [hd]
      clear hd hpl
      obtain ⟨gk, rfl⟩ : ∃ m, gk = m + 1 := ⟨gk - 1, by omega⟩
      have hpos : (0 : Int) < (i : Int) - k := by omega
      go_wp2_with (go_at_call 52; refine (dec_any r _ _ hr hTr).mono ?_; rintro e w1 ⟨rfl, hb1⟩)
      go_roundg gk
      case rel => exact ⟨k + 1, by omega, by rw [HR.out], by go_num, by rw [HP.out]; go_num, by omega, hb.trans (hb1.mono hb.size)⟩
      case measure => omega
    · obtain rfl : k = i := by omega
      have hz : (k : Int) - k = 0 := by omega
      rw [hz]
      clear hz
      go_wp2
      go_ret
      refine ⟨?_, hb⟩
      show Ending.returned (.string _) = _
      rw [HF.out]

theorem txt_range (rs : List Nat) (i m : Nat) : (txt (enc rs)).extract (enc (rs.take i)).length (enc (rs.take (i + m))).length = txt (enc ((rs.drop i).take m)) := by
  have e : rs = rs.take i ++ (rs.drop i).take m ++ rs.drop (i + m) := by
    rw [List.append_assoc, ← List.drop_drop, List.take_append_drop, List.take_append_drop]
  have e2 : rs.take (i + m) = rs.take i ++ (rs.drop i).take m := by rw [List.take_add]
  have h1 := txt_between (rs.take i) ((rs.drop i).take m) (rs.drop (i + m))
  rw [← e] at h1
  rw [e2, enc_append, List.length_append]
  exact h1

set_option maxHeartbeats 1600000 in
set_option maxRecDepth 100000 in
/-- FROM A PLACE TO ANOTHER ONE. -/
theorem slice_mid (rs : List Nat) (i m : Nat) (w : World) (hs : Scs rs) (hl : (enc rs).length ≤ 1000000) (hi : i + m ≤ rs.length) (hT : Tabs w) :
    Calls Tryd.prog 56 #[.string (txt (enc rs)), .int .i64 i, .int .i64 ((i : Int) + m)] w fun e w' => e = .returned (.string (txt (enc ((rs.drop i).take m)))) ∧ Below w.heap.size w w' := by
  have hsz : (txt (enc rs)).size ≤ 1000000 := by rw [txt_size]; exact hl
  have hll : rs.length ≤ (txt (enc rs)).size := by rw [txt_size]; exact enc_length_ge rs
  have hle := enc_take_le rs i
  have hle' := enc_take_le rs (i + m)
  have hlt : (enc (rs.take (i + m))).length ≤ (txt (enc rs)).size := by rw [txt_size]; exact hle'
  have hlt2 : (enc (rs.take i)).length ≤ (enc (rs.take (i + m))).length := by rw [List.take_add, enc_append, List.length_append]; omega
  have HF := Lib.hid (txt_range rs i m)
  go_enter Tryd.func56, Tryd.ntmps56
  go_wp2
  go_loopg [0, 1, 8] (i + 1) (fun gk s n p wr => ∃ k : Nat, k ≤ i ∧ s = .string (txt (enc (rs.drop k))) ∧ n = .int .i64 ((i : Int) - k) ∧ p = .int .i64 (enc (rs.take k)).length ∧ i - k < gk ∧ Below w.heap.size w wr)
  case atStart => exact ⟨0, by omega, rfl, by simp, rfl, by omega, Below.refl _ _⟩
  case round =>
    obtain ⟨k, hk, rfl, rfl, rfl, hg, hb⟩ := hrel
    by_cases hki : k < i
    · obtain ⟨r, hr, hd, hpl⟩ := at_place rs k hs (by omega)
      have hTr := hT.below hb
      have hp := enc_size_pos r (rs.drop (k + 1))
      have hle2 := enc1_size_le r (rs.drop (k + 1))
      have hle3 := enc_take_le rs k
      have hle4 := enc_take_le rs (k + 1)
      have HR := Lib.hid (rest_enc r (rs.drop (k + 1)))
      have HP := Lib.hid hpl
      rw [hpl] at hle4
      rw [hd]
      clear hd hpl
      obtain ⟨gk, rfl⟩ : ∃ m, gk = m + 1 := ⟨gk - 1, by omega⟩
      have hpos : (0 : Int) < (i : Int) - k := by omega
      go_wp2_with (go_at_call 52; refine (dec_any r _ _ hr hTr).mono ?_; rintro e w1 ⟨rfl, hb1⟩)
      go_roundg gk
      case rel => exact ⟨k + 1, by omega, by rw [HR.out], by go_num, by rw [HP.out]; go_num, by omega, hb.trans (hb1.mono hb.size)⟩
      case measure => omega
    · obtain rfl : k = i := by omega
      have hz : (k : Int) - k = 0 := by omega
      have hz2 : (k : Int) + m - k = m := by omega
      rw [hz]
      clear hz
      go_wp2
      rw [hz2]
      clear hz2
      go_loopg [0, 2, 9] (m + 1) (fun gk s n p wr => ∃ q : Nat, q ≤ m ∧ s = .string (txt (enc (rs.drop (k + q)))) ∧ n = .int .i64 ((m : Int) - q) ∧ p = .int .i64 (enc (rs.take (k + q))).length ∧ m - q < gk ∧ Below w.heap.size w wr)
      case atStart => exact ⟨0, by omega, rfl, by simp, rfl, by omega, hb⟩
      case round =>
        clear hb
        obtain ⟨q, hq, rfl, rfl, rfl, hg, hb⟩ := hrel
        by_cases hqm : q < m
        · obtain ⟨r, hr, hd, hpl⟩ := at_place rs (k + q) hs (by omega)
          have hTr := hT.below hb
          have hp := enc_size_pos r (rs.drop (k + q + 1))
          have hle2 := enc1_size_le r (rs.drop (k + q + 1))
          have hle3 := enc_take_le rs (k + q)
          have hle4 := enc_take_le rs (k + q + 1)
          have HR := Lib.hid (rest_enc r (rs.drop (k + q + 1)))
          have HP := Lib.hid hpl
          rw [hpl] at hle4
          rw [hd]
          clear hd hpl
          obtain ⟨gk, rfl⟩ : ∃ m, gk = m + 1 := ⟨gk - 1, by omega⟩
          have hpos : (0 : Int) < (m : Int) - q := by omega
          go_wp2_with (go_at_call 52; refine (dec_any r _ _ hr hTr).mono ?_; rintro e w1 ⟨rfl, hb1⟩)
          go_roundg gk
          case rel => exact ⟨q + 1, by omega, by rw [HR.out]; rfl, by go_num, by rw [← Nat.add_assoc, HP.out]; go_num, by omega, hb.trans (hb1.mono hb.size)⟩
          case measure => omega
        · obtain rfl : q = m := by omega
          have hz : (q : Int) - q = 0 := by omega
          rw [hz]
          clear hz
          go_wp2
          all_goals go_ret
          all_goals (refine ⟨?_, hb⟩; show Ending.returned (.string _) = _; rw [HF.out])

/-- The deferred closure of Slice's wrapper, where nothing has panicked: it does nothing. -/
theorem slice_idle (p q : Addr) (w : World) :
    CallsD Tryd.prog 55 #[.pointer (some p), .pointer (some q)] .returning w fun e u' w' => e = .returned (.tuple #[]) ∧ u' = .returning ∧ w' = w := by
  refine callsD_of_wpS Tryd.func55 rfl fun c₀ cs hu => ?_
  apply wpS_seq
  apply wpS_region
  simp [wpOpsS, go_sem, recoverD, hu, Tryd.ntmps55, Exit.thenS]
  refine wpS_cond (t := false) (by simp [Act.eval, Array.replicate]) ?_
  simp only [Bool.false_eq_true, if_false]
  refine wpS_of_wp (wp_skip ?_)
  cases c₀
  simp_all [bodyPostS, results, Tryd.results55]

set_option maxHeartbeats 800000 in
theorem implSlice_of (s r : ByteArray) (i j : Int) (w : World)
    (h : ∀ W : World, Below w.heap.size w W → Calls Tryd.prog 56 #[.string s, .int .i64 i, .int .i64 j] W fun e w' => e = .returned (.string r) ∧ Below W.heap.size W w') :
    Calls Tryd.prog 26 #[.string s, .int .i64 i, .int .i64 j] w fun e w' => e = .returned (.tuple #[.string r, .bool true]) ∧ Below w.heap.size w w' := by
  have hmf : ∀ (fn : Fn) (first cap : Array Value) (w : World), (Instr.makeFunc fn first cap).run Tryd.prog w = .ok (.func fn first cap) w := fun _ _ _ _ => rfl
  have HH := Lib.hid h
  clear h
  go_enter_defers Tryd.func26, Tryd.ntmps26
  go_wp2_with fail
  refine (HH.out _ (((Below.refl _ _).alloc (Nat.le_refl _) _).alloc (by simp) _)).mono ?_
  rintro e W1 ⟨rfl, hb1⟩
  have hz := hb1.size
  simp only [World.size_alloc] at hz
  have hbw : Below w.heap.size w W1 := (((Below.refl _ _).alloc (Nat.le_refl _) _).alloc (by simp) _).trans (hb1.mono (by simp; omega))
  have c0 : W1.cell? ⟨w.heap.size, 0, none⟩ = some (.string ⟨#[]⟩) := by
    rw [hb1.cell (by simp; omega)]; simp [go_sem]
  have c1 : W1.cell? ⟨w.heap.size + 1, 0, none⟩ = some (.bool false) := by
    rw [hb1.cell (by simp)]; simp [go_sem]
  have f0 : W1.frozen? ⟨w.heap.size, 0, none⟩ = false := by
    rw [hb1.frozen (by simp; omega)]; simp [go_sem]
  have f1 : W1.frozen? ⟨w.heap.size + 1, 0, none⟩ = false := by
    rw [hb1.frozen (by simp)]; simp [go_sem]
  clear hb1
  go_wp2
  refine leaves_cons (f := 55) (args := #[.pointer (some ⟨w.heap.size, 0, none⟩), .pointer (some ⟨w.heap.size + 1, 0, none⟩)]) (by simp) (by simp [go_sem]) ?_
  refine (slice_idle ⟨w.heap.size, 0, none⟩ ⟨w.heap.size + 1, 0, none⟩ _).mono ?_
  rintro e u' w'' ⟨rfl, rfl, rfl⟩
  have d0 : ((W1.setCell ⟨w.heap.size, 0, none⟩ (.string r)).setCell ⟨w.heap.size + 1, 0, none⟩ (.bool true)).cell? ⟨w.heap.size, 0, none⟩ = some (.string r) := by
    rw [World.cell?_setCell_other _ _ _ _ (by simp)]
    exact World.cell?_setCell_same _ _ _ c0
  have d1 : ((W1.setCell ⟨w.heap.size, 0, none⟩ (.string r)).setCell ⟨w.heap.size + 1, 0, none⟩ (.bool true)).cell? ⟨w.heap.size + 1, 0, none⟩ = some (.bool true) := by
    have h1 : (W1.setCell ⟨w.heap.size, 0, none⟩ (.string r)).cell? ⟨w.heap.size + 1, 0, none⟩ = some (.bool false) := by
      rw [World.cell?_setCell_other _ _ _ _ (by simp)]
      exact c1
    exact World.cell?_setCell_same _ _ _ h1
  have hfin : Below w.heap.size w ((W1.setCell ⟨w.heap.size, 0, none⟩ (.string r)).setCell ⟨w.heap.size + 1, 0, none⟩ (.bool true)) :=
    (hbw.setCell (p := ⟨w.heap.size, 0, none⟩) (Nat.le_refl _) _).setCell (p := ⟨w.heap.size + 1, 0, none⟩) (Nat.le_succ _) _
  simp [Leaves, settle, results, Tryd.results26, go_sem, d0, d1]
  exact hfin

theorem implSlice_end (rs : List Nat) (i : Nat) (w : World) (hs : Scs rs) (hl : (enc rs).length ≤ 1000000) (hi : i ≤ rs.length) (hT : Tabs w) :
    Calls Tryd.prog 26 #[.string (txt (enc rs)), .int .i64 i, .int .i64 (-1)] w fun e w' => e = .returned (.tuple #[.string (txt (enc (rs.drop i))), .bool true]) ∧ Below w.heap.size w w' :=
  implSlice_of _ _ _ _ w fun W hb => slice_end rs i W hs hl hi (hT.below hb)
theorem implSlice_mid (rs : List Nat) (i m : Nat) (w : World) (hs : Scs rs) (hl : (enc rs).length ≤ 1000000) (hi : i + m ≤ rs.length) (hT : Tabs w) :
    Calls Tryd.prog 26 #[.string (txt (enc rs)), .int .i64 i, .int .i64 ((i : Int) + m)] w fun e w' => e = .returned (.tuple #[.string (txt (enc ((rs.drop i).take m))), .bool true]) ∧ Below w.heap.size w w' :=
  implSlice_of _ _ _ _ w fun W hb => slice_mid rs i m W hs hl hi (hT.below hb)
theorem implSlice_to (rs : List Nat) (m : Nat) (w : World) (hs : Scs rs) (hl : (enc rs).length ≤ 1000000) (hi : m ≤ rs.length) (hT : Tabs w) :
    Calls Tryd.prog 26 #[.string (txt (enc rs)), .int .i64 0, .int .i64 m] w fun e w' => e = .returned (.tuple #[.string (txt (enc (rs.take m))), .bool true]) ∧ Below w.heap.size w w' := by
  have h := implSlice_mid rs 0 m w hs hl (by omega) hT
  rw [show ((0 : Nat) : Int) + m = m by omega] at h
  exact h
theorem slice_hello (w : World) (hT : Tabs w) :
    Calls Tryd.prog 26 #[.string ⟨#[104, 101, 108, 108, 111]⟩, .int .i64 1, .int .i64 3] w fun e w' => e = .returned (.tuple #[.string ⟨#[101, 108]⟩, .bool true]) ∧ Below w.heap.size w w' :=
  implSlice_mid [104, 101, 108, 108, 111] 1 2 w (by decide) (by decide) (by decide) hT

/-- How many characters a text has. -/
theorem len_any (rs : List Nat) (w : World) (hs : Scs rs) (hl : (enc rs).length ≤ 1000000) :
    Calls Tryd.prog 57 #[.string (txt (enc rs))] w fun e w' => e = .returned (.int .i64 rs.length) ∧ Below w.heap.size w w' := by
  have c := Tryd.utf8_RuneCountInString (txt (enc rs))
  go_enter Tryd.func57, Tryd.ntmps57
  go_wp2_with (go_at_call 77; refine (Tryd.utf8_RuneCountInString (txt (enc rs)) _ (by rw [txt_size]; omega)).mono ?_; rintro e w' ⟨rfl, pos, rfl⟩)
  go_ret
  exact ⟨ret_int (by rw [count_txt rs hs]), (Below.refl _ _).alloc (Nat.le_refl _) _⟩
theorem implLen_any (rs : List Nat) (w : World) (hs : Scs rs) (hl : (enc rs).length ≤ 1000000) :
    Calls Tryd.prog 27 #[.string (txt (enc rs))] w fun e w' => e = .returned (.int .i64 rs.length) ∧ Below w.heap.size w w' := by
  go_enter Tryd.func27, Tryd.ntmps27
  go_wp2_with (go_at_call 57; refine (len_any rs _ hs hl).mono ?_; rintro e w' ⟨rfl, hb⟩)
  go_ret
  exact ⟨rfl, hb⟩

end Go.Proofs.YtodablchamiaeaaDoor
