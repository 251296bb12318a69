/- updateRange: the second pattern's next rune. -/
import Derived.Test.YtbomlhhpokknaaaDoorTRange
namespace Go.Proofs.YtbomlhhpokknaaaDoor
open Go.RowKit U8
open Go.Lib hiding intOf

/-- Where the closure keeps the second pattern's place: four blocks of one cell. -/
structure CuAt (be bs bt bx : Nat) (c : Cu) (w : World) : Prop where
  en : w.heap[be]? = some (.cells #[.int .i32 c.en] 21 (0, 0))
  sp : w.heap[bs]? = some (.cells #[.int .i32 c.sp] 21 (0, 0))
  tx : w.heap[bt]? = some (.cells #[.string (txt c.tx)] 9 (0, 0))
  st : w.heap[bx]? = some (.cells #[.int .i32 c.st] 21 (0, 0))
/-- All else stays. -/
structure Cap (be bs bt bx : Nat) (w w' : World) : Prop where
  os : w'.os = w.os
  tape : w'.tape = w.tape
  output : w'.output = w.output
  size : w.heap.size ≤ w'.heap.size
  block : ∀ k, k < w.heap.size → k ≠ be → k ≠ bs → k ≠ bt → k ≠ bx → w'.heap[k]? = w.heap[k]?
theorem Cap.refl (be bs bt bx : Nat) (w : World) : Cap be bs bt bx w w := ⟨rfl, rfl, rfl, Nat.le_refl _, fun _ _ _ _ _ _ => rfl⟩
theorem Cap.below {be bs bt bx : Nat} {w w' : World} (h : Below w.heap.size w w') : Cap be bs bt bx w w' := ⟨h.os, h.tape, h.output, h.size, fun k hk _ _ _ _ => h.block k hk⟩
theorem Cap.trans {be bs bt bx : Nat} {a b c : World} (h : Cap be bs bt bx a b) (k : Cap be bs bt bx b c) : Cap be bs bt bx a c :=
  ⟨k.os.trans h.os, k.tape.trans h.tape, k.output.trans h.output, Nat.le_trans h.size k.size, fun i h0 h1 h2 h3 h4 => (k.block i (by have := h.size; omega) h1 h2 h3 h4).trans (h.block i h0 h1 h2 h3 h4)⟩
theorem Cap.set {be bs bt bx : Nat} {a b : World} (h : Cap be bs bt bx a b) {k : Nat} (hk : k = be ∨ k = bs ∨ k = bt ∨ k = bx) (u : Value) : Cap be bs bt bx a (b.setCell ⟨k, 0, none⟩ u) :=
  h.trans ⟨rfl, rfl, rfl, by simp [World.setCell], fun i _ h1 h2 h3 h4 => Below.heap_setCell _ _ _ _ (by show i ≠ k; rcases hk with rfl | rfl | rfl | rfl <;> assumption)⟩
theorem CuAt.below {be bs bt bx : Nat} {c : Cu} {w w' : World} (h : CuAt be bs bt bx c w) (hb : Below w.heap.size w w') : CuAt be bs bt bx c w' := by
  have k : Kp none w w' := Kp.below hb
  exact ⟨k _ _ h.en (by simp [tagOf]), k _ _ h.sp (by simp [tagOf]), k _ _ h.tx (by simp [tagOf]), k _ _ h.st (by simp [tagOf])⟩

theorem CuAt.facts {be bs bt bx : Nat} {c : Cu} {w : World} (hA : CuAt be bs bt bx c w) : w.cell? ⟨be, 0, none⟩ = some (.int .i32 c.en) ∧ w.cell? ⟨bs, 0, none⟩ = some (.int .i32 c.sp) ∧ w.cell? ⟨bt, 0, none⟩ = some (.string (txt c.tx)) ∧ w.cell? ⟨bx, 0, none⟩ = some (.int .i32 c.st) ∧
    w.frozen? ⟨be, 0, none⟩ = false ∧ w.frozen? ⟨bs, 0, none⟩ = false ∧ w.frozen? ⟨bt, 0, none⟩ = false ∧ w.frozen? ⟨bx, 0, none⟩ = false :=
  ⟨by simp [World.cell?, hA.en], by simp [World.cell?, hA.sp], by simp [World.cell?, hA.tx], by simp [World.cell?, hA.st], by simp [World.frozen?, hA.en], by simp [World.frozen?, hA.sp], by simp [World.frozen?, hA.tx], by simp [World.frozen?, hA.st]⟩
/-- All four are written. -/
theorem CuAt.all {be bs bt bx : Nat} {c d : Cu} {w : World} (hA : CuAt be bs bt bx c w) (h1 : be ≠ bs) (h2 : be ≠ bt) (h3 : be ≠ bx) (h4 : bs ≠ bt) (h5 : bs ≠ bx) (h6 : bt ≠ bx) :
    CuAt be bs bt bx d ((((w.setCell ⟨bt, 0, none⟩ (.string (txt d.tx))).setCell ⟨bx, 0, none⟩ (.int .i32 d.st)).setCell ⟨be, 0, none⟩ (.int .i32 d.en)).setCell ⟨bs, 0, none⟩ (.int .i32 d.sp)) := by
  have o : ∀ (W : World) (a k : Nat) (u : Value), k ≠ a → (W.setCell ⟨a, 0, none⟩ u).heap[k]? = W.heap[k]? := fun W a k u h => Below.heap_setCell _ _ _ _ h
  refine ⟨?_, ?_, ?_, ?_⟩
  · rw [o _ _ _ _ h1]
    exact one_setCell (v := .int .i32 c.en) (by rw [o _ _ _ _ h3, o _ _ _ _ h2]; exact hA.en)
  · exact one_setCell (v := .int .i32 c.sp) (by rw [o _ _ _ _ h1.symm, o _ _ _ _ h5, o _ _ _ _ h4]; exact hA.sp)
  · rw [o _ _ _ _ h4.symm, o _ _ _ _ h2.symm, o _ _ _ _ h6]
    exact one_setCell hA.tx
  · rw [o _ _ _ _ h5.symm, o _ _ _ _ h3.symm]
    exact one_setCell (v := .int .i32 c.st) (by rw [o _ _ _ _ h6.symm]; exact hA.st)

set_option maxHeartbeats 3200000 in
set_option maxRecDepth 100000 in
theorem upd_any (be bs bt bx : Nat) (c : Cu) (w : World) (hc : c.Ok 1000000) (hA : CuAt be bs bt bx c w) (h1 : be ≠ bs) (h2 : be ≠ bt) (h3 : be ≠ bx) (h4 : bs ≠ bt) (h5 : bs ≠ bx) (h6 : bt ≠ bx) (hT : Tabs w) :
    Calls Tryd.prog 39 #[.pointer (some ⟨be, 0, none⟩), .pointer (some ⟨bs, 0, none⟩), .pointer (some ⟨bt, 0, none⟩), .pointer (some ⟨bx, 0, none⟩)] w fun e w' => e = .returned (.tuple #[]) ∧ CuAt be bs bt bx c.upd w' ∧ Cap be bs bt bx w w' := by
  have ce : w.cell? ⟨be, 0, none⟩ = some (.int .i32 c.en) := by simp [World.cell?, hA.en]
  have cs : w.cell? ⟨bs, 0, none⟩ = some (.int .i32 c.sp) := by simp [World.cell?, hA.sp]
  have ct : w.cell? ⟨bt, 0, none⟩ = some (.string (txt c.tx)) := by simp [World.cell?, hA.tx]
  have cx : w.cell? ⟨bx, 0, none⟩ = some (.int .i32 c.st) := by simp [World.cell?, hA.st]
  by_cases e1 : c.en = -1
  · have e : c.upd = c := by unfold Cu.upd; rw [if_pos e1]
    rw [e]
    have b1 : (c.en == -1) = true := by simp [e1]
    clear e1
    go_enter Tryd.func39, Tryd.ntmps39
    go_wp2
    (try simp only [Exit.inBlock, Exit.then])
    refine bodyPost_ret (results_none rfl _ _ _) rfl ?_
    exact ⟨rfl, hA, Cap.refl _ _ _ _ _⟩
  have b1 : (c.en == -1) = false := by simp [e1]
  have hcE : Cp c.en := by rcases hc.en with h | h; · exact absurd h e1
                           · exact h
  have fe : w.frozen? ⟨be, 0, none⟩ = false := by simp [World.frozen?, hA.en]
  have fs : w.frozen? ⟨bs, 0, none⟩ = false := by simp [World.frozen?, hA.sp]
  have ft : w.frozen? ⟨bt, 0, none⟩ = false := by simp [World.frozen?, hA.tx]
  have fx : w.frozen? ⟨bx, 0, none⟩ = false := by simp [World.frozen?, hA.st]
  by_cases e2 : c.sp = 0
  · have e : c.upd = Cu.of (nrr c.tx.length c.en false false c.tx) := by unfold Cu.upd; rw [if_neg e1, if_pos e2]
    rw [e]
    have b2 : (c.sp == 0) = true := by simp [e2]
    obtain ⟨R, hR⟩ : ∃ R, nrr c.tx.length c.en false false c.tx = R := ⟨_, rfl⟩
    have cN := Lib.hid (next_range c.tx c.en w hc.len hT R hR)
    rw [hR]
    clear e e1 e2 hR
    go_enter Tryd.func39, Tryd.ntmps39
    go_wp2_with (go_at_call 40; refine cN.out.mono ?_; rintro e w1 ⟨rfl, hb1⟩; obtain ⟨ce1, cs1, ct1, cx1, fe1, fs1, ft1, fx1⟩ := (hA.below hb1).facts)
    (try simp only [Exit.inBlock, Exit.then])
    refine bodyPost_ret (results_none rfl _ _ _) rfl ?_
    exact ⟨rfl, (hA.below hb1).all h1 h2 h3 h4 h5 h6, ((((Cap.below hb1).set (.inr (.inr (.inl rfl))) _).set (.inr (.inr (.inr rfl))) _).set (.inl rfl) _).set (.inr (.inl rfl)) _⟩
  have b2 : (c.sp == 0) = false := by simp [e2]
  by_cases e3 : c.st = c.en
  · by_cases e4 : c.tx = []
    · have e : c.upd = { c with en := -1 } := by unfold Cu.upd; rw [if_neg e1, if_neg e2, if_neg (by simp [e3]), if_pos e4]
      rw [e]
      have b3 : (c.st != c.en) = false := by simp [e3]
      have b4 : (txt c.tx).toList.isEmpty = true := by rw [txt_toList, e4]; rfl
      clear e e1 e2 e3 e4
      go_enter Tryd.func39, Tryd.ntmps39
      go_wp2
      (try simp only [Exit.inBlock, Exit.then])
      refine bodyPost_ret (results_none rfl _ _ _) rfl ?_
      refine ⟨rfl, ⟨?_, ?_, ?_, ?_⟩, (Cap.refl _ _ _ _ _).set (.inl rfl) _⟩
      · exact one_setCell hA.en
      · rw [Below.heap_setCell _ _ _ _ h1.symm]; exact hA.sp
      · rw [Below.heap_setCell _ _ _ _ h2.symm]; exact hA.tx
      · rw [Below.heap_setCell _ _ _ _ h3.symm]; exact hA.st
    · have e : c.upd = Cu.of (nrr c.tx.length (-1) false false c.tx) := by unfold Cu.upd; rw [if_neg e1, if_neg e2, if_neg (by simp [e3]), if_neg e4]
      rw [e]
      have b3 : (c.st != c.en) = false := by simp [e3]
      have b4 : (txt c.tx).toList.isEmpty = false := by rw [txt_toList]; exact List.isEmpty_eq_false_iff.2 e4
      obtain ⟨R, hR⟩ : ∃ R, nrr c.tx.length (-1) false false c.tx = R := ⟨_, rfl⟩
      have cN := Lib.hid (next_range c.tx (-1) w hc.len hT R hR)
      rw [hR]
      clear e e1 e2 e3 e4 hR
      go_enter Tryd.func39, Tryd.ntmps39
      go_wp2_with (go_at_call 40; refine cN.out.mono ?_; rintro e w1 ⟨rfl, hb1⟩; obtain ⟨ce1, cs1, ct1, cx1, fe1, fs1, ft1, fx1⟩ := (hA.below hb1).facts)
      go_end0
      exact ⟨rfl, (hA.below hb1).all h1 h2 h3 h4 h5 h6, ((((Cap.below hb1).set (.inr (.inr (.inl rfl))) _).set (.inr (.inr (.inr rfl))) _).set (.inl rfl) _).set (.inr (.inl rfl)) _⟩
  · have e : c.upd = { c with st := c.st + c.sp } := by unfold Cu.upd; rw [if_neg e1, if_neg e2, if_pos e3]
    rw [e]
    have b3 : (c.st != c.en) = true := by simp [e3]
    have b5 : -2147483648 ≤ c.st + c.sp ∧ c.st + c.sp ≤ 2147483647 := by
      have h := hc.sp; have k := hc.st
      unfold Cp at k
      omega
    have b6 : IntKind.i32.wrap (c.st + c.sp) = c.st + c.sp := IntWalk.i32_in _ b5
    clear e e1 e2 e3
    go_enter Tryd.func39, Tryd.ntmps39
    go_wp2
    (try simp only [Exit.inBlock, Exit.then])
    refine bodyPost_ret (results_none rfl _ _ _) rfl ?_
    refine ⟨rfl, ⟨?_, ?_, ?_, ?_⟩, (Cap.refl _ _ _ _ _).set (.inr (.inr (.inr rfl))) _⟩
    · rw [Below.heap_setCell _ _ _ _ h3]; exact hA.en
    · rw [Below.heap_setCell _ _ _ _ h5]; exact hA.sp
    · rw [Below.heap_setCell _ _ _ _ h6]; exact hA.tx
    · exact one_setCell hA.st

end Go.Proofs.YtbomlhhpokknaaaDoor
