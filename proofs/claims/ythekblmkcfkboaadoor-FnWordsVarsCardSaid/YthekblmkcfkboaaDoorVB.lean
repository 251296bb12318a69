/- What Parse keeps in memory, variables among it (substituted: sb). Parse's closure flush, variables among it. What each append and store of Parse leaves of what it keeps, variables among it. Parse with variables: the plain relation, the frame, what holds between two rounds. -/
import Derived.Test.YthekblmkcfkboaaDoorWStep
import Derived.Test.YthekblmkcfkboaaDoorVA
import Derived.Test.YthekblmkcfkboaaDoorWFrame
namespace Go.Proofs.YthekblmkcfkboaaDoor
open Go.RowKit U8
open Go.Lib hiding intOf

structure PV (w : World) (A0 B0 G0 T0 S0 I0 : Nat) (T : ByteArray) (pos : Nat) (vb vk : Value) (args : List (List UInt8)) (buf bt : List UInt8) (got : Nat) (tq sb : Bool) (wr : World) : Prop where
  g : wr.heap[G0]? = some (.cells #[.int .i64 got] 58 (0, 0))
  t : wr.heap[T0]? = some (.cells #[.bool tq] 4 (0, 0))
  z : wr.heap[S0]? = some (.cells #[.bool sb] 4 (0, 0))
  b : wr.heap[B0]? = some (.cells #[vb] 23 (0, 0))
  br : wr.ownsRow w.heap.size 5 1 vb buf.length (byteCells buf)
  a : ∃ va, wr.heap[A0]? = some (.cells #[va] 22 (0, 0)) ∧ wr.ownsRow w.heap.size 9 1 va args.length (strsV args)
  kr : wr.ownsRow w.heap.size 5 1 vk bt.length (byteCells bt)
  sep : ∀ x, vb.ownBlock = some x → vk.ownBlock = some x → False
  bw : Below w.heap.size w wr
  it : wr.heap[I0]? = some (.stringIter T pos)
  n : w.heap.size ≤ I0
  nb : vb.ownBlock ≠ none
section
variable {w wr w2 : World} {A0 B0 G0 T0 S0 I0 pos : Nat} {T : ByteArray} {vb vk : Value} {args : List (List UInt8)} {buf bt : List UInt8} {got : Nat} {tq sb : Bool}
/-- All that it holds lies in blocks that stay: so it holds behind. -/
theorem PV.keep (h : PV w A0 B0 G0 T0 S0 I0 T pos vb vk args buf bt got tq sb wr) (hk : ∀ k, k < wr.heap.size → w2.heap[k]? = wr.heap[k]?) (hb : Below w.heap.size w w2) : PV w A0 B0 G0 T0 S0 I0 T pos vb vk args buf bt got tq sb w2 := by
  have lt : ∀ {k : Nat} {o : Obj}, wr.heap[k]? = some o → w2.heap[k]? = some o := fun {k o} q => by rw [hk k (Array.getElem?_eq_some_iff.1 q).1]; exact q
  obtain ⟨va, ha, har⟩ := h.a
  exact ⟨lt h.g, lt h.t, lt h.z, lt h.b, owns_keep h.br (fun x hx => hk x (World.ownsRow.lt h.br x hx).2), ⟨va, lt ha, owns_keep har (fun x hx => hk x (World.ownsRow.lt har x hx).2)⟩, owns_keep h.kr (fun x hx => hk x (World.ownsRow.lt h.kr x hx).2), h.sep, hb, lt h.it, h.n, h.nb⟩
theorem PV.below (h : PV w A0 B0 G0 T0 S0 I0 T pos vb vk args buf bt got tq sb wr) (hb : Below wr.heap.size wr w2) : PV w A0 B0 G0 T0 S0 I0 T pos vb vk args buf bt got tq sb w2 :=
  h.keep (fun k hk => hb.block k hk) (h.bw.trans (hb.mono h.bw.size))
theorem PV.setG (k : PB w.heap.size A0 B0 G0 T0 S0) (h : PV w A0 B0 G0 T0 S0 I0 T pos vb vk args buf bt got tq sb wr) (g' : Nat) : PV w A0 B0 G0 T0 S0 I0 T pos vb vk args buf bt g' tq sb (wr.setCell ⟨G0, 0, none⟩ (.int .i64 g')) := by
  have o : ∀ x, x ≠ G0 → (wr.setCell ⟨G0, 0, none⟩ (.int .i64 g')).heap[x]? = wr.heap[x]? := fun x hx => Below.heap_setCell _ _ _ _ hx
  obtain ⟨va, ha, har⟩ := h.a
  refine ⟨cells_set h.g 0 _, ?_, ?_, ?_, owns_keep h.br (fun x hx => o x (owns_kind h.br h.g (by decide) x hx)), ⟨va, ?_, owns_keep har (fun x hx => o x (owns_kind har h.g (by decide) x hx))⟩, owns_keep h.kr (fun x hx => o x (owns_kind h.kr h.g (by decide) x hx)), h.sep, h.bw.setCell k.g _, by rw [o _ (iter_ne h.it h.g)]; exact h.it, h.n, h.nb⟩
  · rw [o _ k.gt.symm]; exact h.t
  · rw [o _ k.gs.symm]; exact h.z
  · rw [o _ k.bg]; exact h.b
  · rw [o _ k.ag]; exact ha
theorem PV.setT (k : PB w.heap.size A0 B0 G0 T0 S0) (h : PV w A0 B0 G0 T0 S0 I0 T pos vb vk args buf bt got tq sb wr) (t' : Bool) : PV w A0 B0 G0 T0 S0 I0 T pos vb vk args buf bt got t' sb (wr.setCell ⟨T0, 0, none⟩ (.bool t')) := by
  have o : ∀ x, x ≠ T0 → (wr.setCell ⟨T0, 0, none⟩ (.bool t')).heap[x]? = wr.heap[x]? := fun x hx => Below.heap_setCell _ _ _ _ hx
  obtain ⟨va, ha, har⟩ := h.a
  refine ⟨?_, cells_set h.t 0 _, ?_, ?_, owns_keep h.br (fun x hx => o x (owns_kind h.br h.t (by decide) x hx)), ⟨va, ?_, owns_keep har (fun x hx => o x (owns_kind har h.t (by decide) x hx))⟩, owns_keep h.kr (fun x hx => o x (owns_kind h.kr h.t (by decide) x hx)), h.sep, h.bw.setCell k.t _, by rw [o _ (iter_ne h.it h.t)]; exact h.it, h.n, h.nb⟩
  · rw [o _ k.gt]; exact h.g
  · rw [o _ k.ts.symm]; exact h.z
  · rw [o _ k.bt]; exact h.b
  · rw [o _ k.aT]; exact ha
/-- The buffer's row has grown (by an append onto it, behind new blocks), and is put back. -/
theorem PV.bufTo (k : PB w.heap.size A0 B0 G0 T0 S0) (h : PV w A0 B0 G0 T0 S0 I0 T pos vb vk args buf bt got tq sb wr) {wa : World} (ha : ∀ x, x < wr.heap.size → wa.heap[x]? = wr.heap[x]?) (hba : Below w.heap.size w wa) (hsz : wr.heap.size ≤ wa.heap.size) {vb' : Value} {buf' : List UInt8}
    (hg : wa.grownBy w2 vb.ownBlock) (hown : w2.ownsRow w.heap.size 5 1 vb' buf'.length (byteCells buf')) (hmv : Moved wa vb vb') :
    w2.cell? ⟨B0, 0, none⟩ = some vb ∧ w2.frozen? ⟨B0, 0, none⟩ = false ∧ B0 < w2.heap.size ∧ PV w A0 B0 G0 T0 S0 I0 T pos vb' vk args buf' bt got tq sb (w2.setCell ⟨B0, 0, none⟩ vb') := by
  obtain ⟨va, hA, har⟩ := h.a
  have hk1 : ∀ x, x < wr.heap.size → vb.ownBlock ≠ some x → w2.heap[x]? = wr.heap[x]? := fun x hx hne => by rw [hg.block x (by omega) (fun e => hne e.symm), ha x hx]
  have lt : ∀ {x : Nat} {o : Obj}, wr.heap[x]? = some o → x < wr.heap.size := fun q => (Array.getElem?_eq_some_iff.1 q).1
  have hB := (hk1 B0 (lt h.b) (fun e => owns_kind h.br h.b (by decide) _ e rfl)).trans h.b
  have o : ∀ x, x ≠ B0 → (w2.setCell ⟨B0, 0, none⟩ vb').heap[x]? = w2.heap[x]? := fun x hx => Below.heap_setCell _ _ _ _ hx
  have c : ∀ {x : Nat} {C : Array Value} {t : TypeId} {m : Nat × Nat}, wr.heap[x]? = some (.cells C t m) → t ≠ 5 → x ≠ B0 → (w2.setCell ⟨B0, 0, none⟩ vb').heap[x]? = some (.cells C t m) := fun q ht hx => by
    rw [o _ hx, hk1 _ (lt q) (fun e => owns_kind h.br q ht _ e rfl)]; exact q
  refine ⟨by simp [World.cell?, hB], by simp [World.frozen?, hB], (Array.getElem?_eq_some_iff.1 hB).1, c h.g (by decide) k.bg.symm, c h.t (by decide) k.bt.symm, c h.z (by decide) k.bs.symm, cells_set hB 0 _, owns_keep hown (fun x hx => o x (owns_kind hown hB (by decide) x hx)), ⟨va, c hA (by decide) k.ab, ?_⟩, ?_, ?_, ?_, by rw [o _ (iter_ne h.it h.b), hk1 _ (lt h.it) (fun e => owns_iter h.br h.it _ e rfl)]; exact h.it, h.n, (by rcases hmv with e | ⟨y, e, _⟩ <;> rw [e]; exact h.nb; simp)⟩
  · refine owns_keep har (fun x hx => ?_)
    have hxl := (World.ownsRow.lt har x hx).2
    rw [o x (owns_kind har h.b (by decide) x hx), hk1 x hxl (owns_kindF har h.br (by decide) x hx)]
  · refine owns_keep h.kr (fun x hx => ?_)
    have hxl := (World.ownsRow.lt h.kr x hx).2
    rw [o x (owns_kind h.kr h.b (by decide) x hx), hk1 x hxl (fun e => h.sep x e hx)]
  · intro x h1 h2
    have hxl := (World.ownsRow.lt h.kr x h2).2
    rcases hmv with e | ⟨y, e, hy⟩
    · rw [e] at h1; exact h.sep x h1 h2
    · rw [e] at h1; cases h1; omega
  · exact (hba.grown hg hba.size (fun x hx => (World.ownsRow.lt h.br x hx).1)).setCell k.b _
/-- The backtick's row has grown. -/
theorem PV.bkTo (h : PV w A0 B0 G0 T0 S0 I0 T pos vb vk args buf bt got tq sb wr) {wa : World} (ha : ∀ x, x < wr.heap.size → wa.heap[x]? = wr.heap[x]?) (hba : Below w.heap.size w wa) (hsz : wr.heap.size ≤ wa.heap.size) {vk' : Value} {bt' : List UInt8}
    (hg : wa.grownBy w2 vk.ownBlock) (hown : w2.ownsRow w.heap.size 5 1 vk' bt'.length (byteCells bt')) (hmv : Moved wa vk vk') :
    PV w A0 B0 G0 T0 S0 I0 T pos vb vk' args buf bt' got tq sb w2 := by
  obtain ⟨va, hA, har⟩ := h.a
  have hk1 : ∀ x, x < wr.heap.size → vk.ownBlock ≠ some x → w2.heap[x]? = wr.heap[x]? := fun x hx hne => by rw [hg.block x (by omega) (fun e => hne e.symm), ha x hx]
  have lt : ∀ {x : Nat} {o : Obj}, wr.heap[x]? = some o → x < wr.heap.size := fun q => (Array.getElem?_eq_some_iff.1 q).1
  have c : ∀ {x : Nat} {C : Array Value} {t : TypeId} {m : Nat × Nat}, wr.heap[x]? = some (.cells C t m) → t ≠ 5 → w2.heap[x]? = some (.cells C t m) := fun q ht => by
    rw [hk1 _ (lt q) (fun e => owns_kind h.kr q ht _ e rfl)]; exact q
  refine ⟨c h.g (by decide), c h.t (by decide), c h.z (by decide), c h.b (by decide), ?_, ⟨va, c hA (by decide), ?_⟩, hown, ?_, hba.grown hg hba.size (fun x hx => (World.ownsRow.lt h.kr x hx).1), by rw [hk1 _ (lt h.it) (fun e => owns_iter h.kr h.it _ e rfl)]; exact h.it, h.n, h.nb⟩
  · refine owns_keep h.br (fun x hx => hk1 x (World.ownsRow.lt h.br x hx).2 (fun e => h.sep x hx e))
  · refine owns_keep har (fun x hx => hk1 x (World.ownsRow.lt har x hx).2 (owns_kindF har h.kr (by decide) x hx))
  · intro x h1 h2
    have hxl := (World.ownsRow.lt h.br x h1).2
    rcases hmv with e | ⟨y, e, hy⟩
    · rw [e] at h2; exact h.sep x h1 h2
    · rw [e] at h2; cases h2; omega
theorem PV.setS (k : PB w.heap.size A0 B0 G0 T0 S0) (h : PV w A0 B0 G0 T0 S0 I0 T pos vb vk args buf bt got tq sb wr) (s' : Bool) : PV w A0 B0 G0 T0 S0 I0 T pos vb vk args buf bt got tq s' (wr.setCell ⟨S0, 0, none⟩ (.bool s')) := by
  have o : ∀ x, x ≠ S0 → (wr.setCell ⟨S0, 0, none⟩ (.bool s')).heap[x]? = wr.heap[x]? := fun x hx => Below.heap_setCell _ _ _ _ hx
  obtain ⟨va, ha, har⟩ := h.a
  refine ⟨?_, ?_, cells_set h.z 0 _, ?_, owns_keep h.br (fun x hx => o x (owns_kind h.br h.z (by decide) x hx)), ⟨va, ?_, owns_keep har (fun x hx => o x (owns_kind har h.z (by decide) x hx))⟩, owns_keep h.kr (fun x hx => o x (owns_kind h.kr h.z (by decide) x hx)), h.sep, h.bw.setCell k.s _, by rw [o _ (iter_ne h.it h.z)]; exact h.it, h.n, h.nb⟩
  · rw [o _ k.gs]; exact h.g
  · rw [o _ k.ts]; exact h.t
  · rw [o _ k.bs]; exact h.b
  · rw [o _ k.aS]; exact ha
/-- The words have grown by one, and are put back. -/
theorem PV.argTo (k : PB w.heap.size A0 B0 G0 T0 S0) (h : PV w A0 B0 G0 T0 S0 I0 T pos vb vk args buf bt got tq sb wr) {va : Value} (hA : wr.heap[A0]? = some (.cells #[va] 22 (0, 0))) (har : wr.ownsRow w.heap.size 9 1 va args.length (strsV args)) {wa : World} (ha : ∀ x, x < wr.heap.size → wa.heap[x]? = wr.heap[x]?) (hba : Below w.heap.size w wa) (hsz : wr.heap.size ≤ wa.heap.size) {va' : Value} {args' : List (List UInt8)}
    (hg : wa.grownBy w2 va.ownBlock) (hown : w2.ownsRow w.heap.size 9 1 va' args'.length (strsV args')) :
    w2.cell? ⟨A0, 0, none⟩ = some va ∧ w2.frozen? ⟨A0, 0, none⟩ = false ∧ A0 < w2.heap.size ∧ PV w A0 B0 G0 T0 S0 I0 T pos vb vk args' buf bt got tq sb (w2.setCell ⟨A0, 0, none⟩ va') := by
  have hk1 : ∀ x, x < wr.heap.size → va.ownBlock ≠ some x → w2.heap[x]? = wr.heap[x]? := fun x hx hne => by rw [hg.block x (by omega) (fun e => hne e.symm), ha x hx]
  have lt : ∀ {x : Nat} {o : Obj}, wr.heap[x]? = some o → x < wr.heap.size := fun q => (Array.getElem?_eq_some_iff.1 q).1
  have hA2 := (hk1 A0 (lt hA) (fun e => owns_kind har hA (by decide) _ e rfl)).trans hA
  have o : ∀ x, x ≠ A0 → (w2.setCell ⟨A0, 0, none⟩ va').heap[x]? = w2.heap[x]? := fun x hx => Below.heap_setCell _ _ _ _ hx
  have c : ∀ {x : Nat} {C : Array Value} {t : TypeId} {m : Nat × Nat}, wr.heap[x]? = some (.cells C t m) → t ≠ 9 → x ≠ A0 → (w2.setCell ⟨A0, 0, none⟩ va').heap[x]? = some (.cells C t m) := fun q ht hx => by
    rw [o _ hx, hk1 _ (lt q) (fun e => owns_kind har q ht _ e rfl)]; exact q
  refine ⟨by simp [World.cell?, hA2], by simp [World.frozen?, hA2], (Array.getElem?_eq_some_iff.1 hA2).1, c h.g (by decide) k.ag.symm, c h.t (by decide) k.aT.symm, c h.z (by decide) k.aS.symm, c h.b (by decide) k.ab.symm, ?_, ⟨va', cells_set hA2 0 _, owns_keep hown (fun x hx => o x (owns_kind hown hA2 (by decide) x hx))⟩, ?_, h.sep, ?_, by rw [o _ (iter_ne h.it hA), hk1 _ (lt h.it) (fun e => owns_iter har h.it _ e rfl)]; exact h.it, h.n, h.nb⟩
  · refine owns_keep h.br (fun x hx => ?_)
    rw [o x (owns_kind h.br hA (by decide) x hx), hk1 x (World.ownsRow.lt h.br x hx).2 (owns_kindF h.br har (by decide) x hx)]
  · refine owns_keep h.kr (fun x hx => ?_)
    rw [o x (owns_kind h.kr hA (by decide) x hx), hk1 x (World.ownsRow.lt h.kr x hx).2 (owns_kindF h.kr har (by decide) x hx)]
  · exact (hba.grown hg hba.size (fun x hx => (World.ownsRow.lt har x hx).1)).setCell k.a _
/-- The buffer is cut to nothing, and no word is begun. -/
theorem PV.cut (k : PB w.heap.size A0 B0 G0 T0 S0) {g n cap : Nat} (h : PV w A0 B0 G0 T0 S0 I0 T pos (.slice (some ⟨g, 0, none⟩) n cap) vk args buf bt got tq sb wr) :
    PV w A0 B0 G0 T0 S0 I0 T pos (.slice (some ⟨g, 0, none⟩) 0 cap) vk args [] bt 0 false false ((((wr.setCell ⟨B0, 0, none⟩ (.slice (some ⟨g, 0, none⟩) 0 cap)).setCell ⟨G0, 0, none⟩ (.int .i64 0)).setCell ⟨T0, 0, none⟩ (.bool false)).setCell ⟨S0, 0, none⟩ (.bool false)) := by
  have hown : wr.ownsRow w.heap.size 5 1 (.slice (some ⟨g, 0, none⟩) 0 cap) 0 (byteCells []) := by
    rcases h.br.2 with ⟨e, _⟩ | ⟨g', cap', cur, e, h1, h2, h3, h4, h5, h6⟩
    · cases e
    · cases e
      exact ⟨rfl, .inr ⟨g, cap, cur, rfl, h1, h2, by omega, h4, h5, rfl⟩⟩
  have k1 := (h.bufTo k (w2 := wr) (wa := wr) (fun _ _ => rfl) h.bw (Nat.le_refl _) (vb' := .slice (some ⟨g, 0, none⟩) 0 cap) (buf' := []) ⟨rfl, rfl, rfl, Nat.le_refl _, fun _ _ _ => rfl⟩ hown (.inl rfl)).2.2.2
  exact ((k1.setG k 0).setT k false).setS k false
/-- The range goes on. -/
theorem PV.next (h : PV w A0 B0 G0 T0 S0 I0 T pos vb vk args buf bt got tq sb wr) (pos' : Nat) : PV w A0 B0 G0 T0 S0 I0 T pos' vb vk args buf bt got tq sb (wr.iterAt I0 T pos') := by
  have o : ∀ x, x ≠ I0 → (wr.iterAt I0 T pos').heap[x]? = wr.heap[x]? := fun x hx => iterAt_other wr I0 x T pos' hx
  obtain ⟨va, hA, har⟩ := h.a
  have c : ∀ {x : Nat} {C : Array Value} {t : TypeId} {m : Nat × Nat}, wr.heap[x]? = some (.cells C t m) → (wr.iterAt I0 T pos').heap[x]? = some (.cells C t m) := fun q => by
    rw [o _ (iter_ne h.it q).symm]; exact q
  exact ⟨c h.g, c h.t, c h.z, c h.b, owns_keep h.br (fun x hx => o x (owns_iter h.br h.it x hx)), ⟨va, c hA, owns_keep har (fun x hx => o x (owns_iter har h.it x hx))⟩, owns_keep h.kr (fun x hx => o x (owns_iter h.kr h.it x hx)), h.sep, below_iterAt h.bw h.n T pos', iterAt_heap wr I0 T _ pos' h.it, h.n, h.nb⟩
end

set_option maxHeartbeats 3200000 in
set_option maxRecDepth 100000 in
theorem flush_v (w : World) (A0 B0 G0 T0 S0 I0 pos : Nat) (T : ByteArray) (vb vk : Value) (args : List (List UInt8)) (buf bt : List UInt8) (got : Nat) (tq sb : Bool) (wr : World)
    (k : PB w.heap.size A0 B0 G0 T0 S0) (h : PV w A0 B0 G0 T0 S0 I0 T pos vb vk args buf bt got tq sb wr) (ha : args.length ≤ 1000000) (hg : got ≤ 2) :
    Calls Tryd.prog 30 #[.pointer (some ⟨G0, 0, none⟩), .pointer (some ⟨B0, 0, none⟩), .pointer (some ⟨A0, 0, none⟩), .pointer (some ⟨T0, 0, none⟩), .pointer (some ⟨S0, 0, none⟩)] wr fun e w' => e = .returned (.tuple #[]) ∧
      ∃ vb', PV w A0 B0 G0 T0 S0 I0 T pos vb' vk (if got == 2 || (got != 0 && !buf.isEmpty) then args ++ [buf] else args) [] bt 0 false false w' := by
  obtain ⟨i0, hi, hz0, hz1, hz2⟩ := info_parts Tryd.infoStr
  have K := Lib.hid k
  have H := Lib.hid h
  obtain ⟨gb, cap, rfl, hcap, -⟩ := owns_cut h.br h.nb
  obtain ⟨va, hA, har⟩ := h.a
  obtain ⟨ao, acap, rfl⟩ := owns_slice har
  have htx := run_row_text buf h.br h.nb
  have cg : wr.cell? ⟨G0, 0, none⟩ = some (.int .i64 got) := by simp [World.cell?, h.g]
  have cb : wr.cell? ⟨B0, 0, none⟩ = some (.slice (some ⟨gb, 0, none⟩) buf.length cap) := by simp [World.cell?, h.b]
  have ca : wr.cell? ⟨A0, 0, none⟩ = some (.slice ao args.length acap) := by simp [World.cell?, hA]
  have HAR := Lib.hid har
  have cz : wr.cell? ⟨T0, 0, none⟩ = some (.bool tq) := by simp [World.cell?, h.t]
  have cs : wr.cell? ⟨S0, 0, none⟩ = some (.bool sb) := by simp [World.cell?, h.z]
  have fg : wr.frozen? ⟨G0, 0, none⟩ = false := by simp [World.frozen?, h.g]
  have fb : wr.frozen? ⟨B0, 0, none⟩ = false := by simp [World.frozen?, h.b]
  have fz : wr.frozen? ⟨T0, 0, none⟩ = false := by simp [World.frozen?, h.t]
  have fs : wr.frozen? ⟨S0, 0, none⟩ = false := by simp [World.frozen?, h.z]
  have lg : G0 < wr.heap.size := (Array.getElem?_eq_some_iff.1 h.g).1
  have lb : B0 < wr.heap.size := (Array.getElem?_eq_some_iff.1 h.b).1
  have lt : T0 < wr.heap.size := (Array.getElem?_eq_some_iff.1 h.t).1
  have ls : S0 < wr.heap.size := (Array.getElem?_eq_some_iff.1 h.z).1
  have HC := Lib.hid (PV.cut k h)
  obtain ⟨ka, kb, kg, kt, ks, nab, nag, naT, naS, nbg, nbt, nbs, ngt, ngs, nts⟩ := k
  have ngb := nbg.symm
  have ntb := nbt.symm
  have nsb := nbs.symm
  have ntg := ngt.symm
  have nsg := ngs.symm
  have nst := nts.symm
  cases hw : (got == 2 || (got != 0 && !buf.isEmpty)) with
  | false =>
    have hg1 : got = 0 ∨ (got = 1 ∧ buf = []) := by
      rcases (show got = 0 ∨ got = 1 ∨ got = 2 by omega) with rfl | rfl | rfl
      · exact .inl rfl
      · refine .inr ⟨rfl, ?_⟩
        cases buf with
        | nil => rfl
        | cons b l => simp at hw
      · simp at hw
    clear hw h HAR H
    rcases hg1 with rfl | ⟨rfl, rfl⟩
    · go_enter Tryd.func30, Tryd.ntmps30
      go_wp2
      refine bodyPost_end (results_none rfl _ _ _) rfl ?_
      exact ⟨rfl, _, HC.out⟩
    · go_enter Tryd.func30, Tryd.ntmps30
      go_wp2
      refine bodyPost_end (results_none rfl _ _ _) rfl ?_
      exact ⟨rfl, _, HC.out⟩
  | true =>
    have hal : args.length ≤ 1000000 := ha
    obtain ⟨W1, hW1⟩ : ∃ W1, wr.alloc (.cells #[.string (txt buf)] 9) = W1 := ⟨_, rfl⟩
    have HW1 := Lib.hid hW1
    have hone : Hid (∀ (j : Nat) (u : Value), [Value.string (txt buf)][j]? = some u → (wr.alloc (.cells #[.string (txt buf)] 9)).cell? ((⟨wr.heap.size, 0, none⟩ : Addr).add j) = some u) := one_str wr (txt buf)
    have hkeep : Hid (∀ x, x < wr.heap.size → (wr.alloc (.cells #[.string (txt buf)] 9)).heap[x]? = wr.heap[x]?) := fun x hx => alloc_old wr _ _ hx
    have hbA : Hid (Below w.heap.size w (wr.alloc (.cells #[.string (txt buf)] 9))) := h.bw.alloc h.bw.size _
    have HA := Lib.hid hA
    have HN := Lib.hid h.bw.size
    have hg1 : got = 2 ∨ (got = 1 ∧ 0 < buf.length) := by
      rcases (show got = 0 ∨ got = 1 ∨ got = 2 by omega) with rfl | rfl | rfl
      · simp at hw
      · refine .inr ⟨rfl, ?_⟩
        cases buf with
        | nil => simp at hw
        | cons b l => simp
      · exact .inl rfl
    clear hw h har hA hW1 HC
    rcases hg1 with rfl | ⟨rfl, hbl⟩
    all_goals
      go_enter Tryd.func30, Tryd.ntmps30
      go_wp2_with (at_builtin; refine wpList_append_own _ rfl _ _ 22 rfl w.heap.size 9 i0 (.string ⟨#[]⟩) 1 16 Tryd.underlying22 hi hz0 hz1 hz2 rfl (by decide) (.slice ao args.length acap) args.length (strsV args) rfl (World.ownsRow.alloc HAR.out _) ⟨wr.heap.size, 0, none⟩ 1 1 [.string (txt buf)] rfl rfl hone.out (by intro u hu; simp at hu; subst hu; rfl) (by unfold maxLen; omega) (by omega) (by have := HN.out; simp; omega) ?_)
      intro v' w2 hown' hgrow _
      obtain ⟨ao2, cap2, rfl⟩ := owns_slice hown'
      obtain ⟨e0, e1, e2, hP⟩ := PV.argTo K.out H.out HA.out HAR.out hkeep.out hbA.out (by simp) (args' := args ++ [buf]) hgrow (by rw [List.length_append]; show World.ownsRow _ _ _ _ _ _ (List.map _ _); rw [List.map_append]; exact hown')
      have HP := Lib.hid hP
      clear hP hown' hgrow cg cb ca cz cs fg fb fz fs htx
      go_upto_region 2 with fail
      generalize w2.setCell ⟨A0, 0, none⟩ (.slice ao2 (args.length + 1) cap2) = w3 at *
      have HC2 := Lib.hid (PV.cut K.out HP.out)
      have cb : w3.cell? ⟨B0, 0, none⟩ = some (.slice (some ⟨gb, 0, none⟩) buf.length cap) := by simp [World.cell?, HP.out.b]
      have fg : w3.frozen? ⟨G0, 0, none⟩ = false := by simp [World.frozen?, HP.out.g]
      have fb : w3.frozen? ⟨B0, 0, none⟩ = false := by simp [World.frozen?, HP.out.b]
      have fz : w3.frozen? ⟨T0, 0, none⟩ = false := by simp [World.frozen?, HP.out.t]
      have fs : w3.frozen? ⟨S0, 0, none⟩ = false := by simp [World.frozen?, HP.out.z]
      have lg2 : G0 < w3.heap.size := (Array.getElem?_eq_some_iff.1 HP.out.g).1
      have lb2 : B0 < w3.heap.size := (Array.getElem?_eq_some_iff.1 HP.out.b).1
      have lt2 : T0 < w3.heap.size := (Array.getElem?_eq_some_iff.1 HP.out.t).1
      have ls2 : S0 < w3.heap.size := (Array.getElem?_eq_some_iff.1 HP.out.z).1
      have cg : ∃ v, w3.cell? ⟨G0, 0, none⟩ = some v := ⟨_, by simp [World.cell?, HP.out.g]; rfl⟩
      have cz : w3.cell? ⟨T0, 0, none⟩ = some (.bool tq) := by simp [World.cell?, HP.out.t]
      have cs : w3.cell? ⟨S0, 0, none⟩ = some (.bool sb) := by simp [World.cell?, HP.out.z]
      obtain ⟨vg, cg⟩ := cg
      clear HP e0 e1 e2
      go_wp2
      refine bodyPost_end (results_none rfl _ _ _) rfl ?_
      exact ⟨rfl, _, HC2.out⟩

section
variable {w wr w2 : World} {A0 B0 G0 T0 S0 I0 pos : Nat} {T : ByteArray} {vb vk v' : Value} {args : List (List UInt8)} {buf bt : List UInt8} {got : Nat} {tq sb : Bool}
theorem PV.addBuf (k : PB w.heap.size A0 B0 G0 T0 S0) (h : PV w A0 B0 G0 T0 S0 I0 T pos vb vk args buf bt got tq sb wr) {e : List UInt8} (hg : wr.grownBy w2 vb.ownBlock)
    (hown : w2.ownsRow w.heap.size 5 1 v' (buf.length + (txt e).size) (byteCells buf ++ strCells (txt e))) (hmv : Moved wr vb v') :
    w2.cell? ⟨B0, 0, none⟩ = some vb ∧ w2.frozen? ⟨B0, 0, none⟩ = false ∧ B0 < w2.heap.size ∧ PV w A0 B0 G0 T0 S0 I0 T pos v' vk args (buf ++ e) bt got tq sb (w2.setCell ⟨B0, 0, none⟩ v') :=
  h.bufTo k (fun _ _ => rfl) h.bw (Nat.le_refl _) hg (own_app hown) hmv
theorem PV.addBuf1 (k : PB w.heap.size A0 B0 G0 T0 S0) (h : PV w A0 B0 G0 T0 S0 I0 T pos vb vk args buf bt got tq sb wr) (x : UInt8) (u : Int) (hu : u = (x.toNat : Int)) (hg : (wr.alloc (.cells #[.int .u8 u] 5)).grownBy w2 vb.ownBlock)
    (hown : w2.ownsRow w.heap.size 5 1 v' (buf.length + 1) (byteCells buf ++ [Value.int .u8 u])) (hmv : Moved (wr.alloc (.cells #[.int .u8 u] 5)) vb v') :
    w2.cell? ⟨B0, 0, none⟩ = some vb ∧ w2.frozen? ⟨B0, 0, none⟩ = false ∧ B0 < w2.heap.size ∧ PV w A0 B0 G0 T0 S0 I0 T pos v' vk args (buf ++ [x]) bt got tq sb (w2.setCell ⟨B0, 0, none⟩ v') :=
  h.bufTo k (fun y hy => alloc_old _ _ _ hy) (h.bw.alloc h.bw.size _) (by simp) hg (own_one x u hu hown) hmv
theorem PV.addBk (h : PV w A0 B0 G0 T0 S0 I0 T pos vb vk args buf bt got tq sb wr) {e : List UInt8} (hg : wr.grownBy w2 vk.ownBlock)
    (hown : w2.ownsRow w.heap.size 5 1 v' (bt.length + (txt e).size) (byteCells bt ++ strCells (txt e))) (hmv : Moved wr vk v') :
    PV w A0 B0 G0 T0 S0 I0 T pos vb v' args buf (bt ++ e) got tq sb w2 :=
  h.bkTo (fun _ _ => rfl) h.bw (Nat.le_refl _) hg (own_app hown) hmv
theorem PV.addBk1 (h : PV w A0 B0 G0 T0 S0 I0 T pos vb vk args buf bt got tq sb wr) (x : UInt8) (u : Int) (hu : u = (x.toNat : Int)) (hg : (wr.alloc (.cells #[.int .u8 u] 5)).grownBy w2 vk.ownBlock)
    (hown : w2.ownsRow w.heap.size 5 1 v' (bt.length + 1) (byteCells bt ++ [Value.int .u8 u])) (hmv : Moved (wr.alloc (.cells #[.int .u8 u] 5)) vk v') :
    PV w A0 B0 G0 T0 S0 I0 T pos vb v' args buf (bt ++ [x]) got tq sb w2 :=
  h.bkTo (fun y hy => alloc_old _ _ _ hy) (h.bw.alloc h.bw.size _) (by simp) hg (own_one x u hu hown) hmv
theorem PV.bkCut {ao : Option Addr} {n cap : Nat} (h : PV w A0 B0 G0 T0 S0 I0 T pos vb (.slice ao n cap) args buf bt got tq sb wr) (hn : n = bt.length) :
    PV w A0 B0 G0 T0 S0 I0 T pos vb (.slice ao 0 cap) args buf [] got tq sb wr := by
  subst hn
  exact ⟨h.g, h.t, h.z, h.b, h.br, h.a, own_zero h.kr, fun x h1 h2 => h.sep x h1 (by rw [← h2]; cases ao <;> rfl), h.bw, h.it, h.n, h.nb⟩
theorem PV.bkForm (h : PV w A0 B0 G0 T0 S0 I0 T pos vb vk args buf bt got tq sb wr) : (vk = .slice none 0 0 ∧ bt.length = 0) ∨ ∃ g cap, vk = .slice (some ⟨g, 0, none⟩) bt.length cap ∧ bt.length ≤ cap := by
  rcases h.kr.2 with ⟨e1, h0⟩ | ⟨g', cap', cur, e1, h1, h2, h3, _⟩
  · exact .inl ⟨e1, h0⟩
  · exact .inr ⟨g', cap', e1, h3⟩
end
/-- The blocks with which Parse begins. -/
theorem pv_start (w w0 w2 : World) (T : ByteArray) (va vb : Value) (h0 : w.grownBy w0 none) (o0 : w0.ownsRow w.heap.size 9 1 va 0 []) (h2 : (w0.alloc (.cells #[va] 22)).grownBy w2 none) (o2 : w2.ownsRow w.heap.size 5 1 vb 0 []) (hn : vb.ownBlock ≠ none) :
    PV w w0.heap.size w2.heap.size (w2.heap.size + 1) (w2.heap.size + 1 + 1) (w2.heap.size + 1 + 1 + 1) (w2.heap.size + 1 + 1 + 1 + 1) T 0 vb (.slice none 0 0) [] [] [] 0 false false (((((w2.alloc (.cells #[vb] 23)).alloc (.cells #[.int .i64 0] 58)).alloc (.cells #[.bool false] 4)).alloc (.cells #[.bool false] 4)).iter T 0) ∧
    PB w.heap.size w0.heap.size w2.heap.size (w2.heap.size + 1) (w2.heap.size + 1 + 1) (w2.heap.size + 1 + 1 + 1) := by
  have s0 := h0.size
  have s2 := h2.size
  simp at s2
  have hA : w2.heap[w0.heap.size]? = some (.cells #[va] 22 (0, 0)) := by
    rw [h2.block _ (by simp) (by simp)]; exact heap_alloc_new _ _
  have oA : w2.ownsRow w.heap.size 9 1 va 0 [] := owns_keep o0 (fun x hx => by
    have := (World.ownsRow.lt o0 x hx).2
    rw [h2.block _ (by simp; omega) (by simp)]; exact alloc_old _ _ _ this)
  obtain ⟨q1, e1⟩ : ∃ q1, w2.alloc (.cells #[vb] 23) = q1 := ⟨_, rfl⟩
  obtain ⟨q2, e2⟩ : ∃ q2, q1.alloc (.cells #[.int .i64 0] 58) = q2 := ⟨_, rfl⟩
  obtain ⟨q3, e3⟩ : ∃ q3, q2.alloc (.cells #[.bool false] 4) = q3 := ⟨_, rfl⟩
  obtain ⟨q4, e4⟩ : ∃ q4, q3.alloc (.cells #[.bool false] 4) = q4 := ⟨_, rfl⟩
  obtain ⟨q5, e5⟩ : ∃ q5, q4.iter T 0 = q5 := ⟨_, rfl⟩
  have z1 : q1.heap.size = w2.heap.size + 1 := by rw [← e1]; simp
  have z2 : q2.heap.size = w2.heap.size + 1 + 1 := by rw [← e2]; simp [z1]
  have z3 : q3.heap.size = w2.heap.size + 1 + 1 + 1 := by rw [← e3]; simp [z2]
  have z4 : q4.heap.size = w2.heap.size + 1 + 1 + 1 + 1 := by rw [← e4]; simp [z3]
  have k1 : ∀ x, x < w2.heap.size → q1.heap[x]? = w2.heap[x]? := fun x hx => by rw [← e1]; exact alloc_old _ _ _ hx
  have k2 : ∀ x, x < w2.heap.size + 1 → q2.heap[x]? = q1.heap[x]? := fun x hx => by rw [← e2]; exact alloc_old _ _ _ (by omega)
  have k3 : ∀ x, x < w2.heap.size + 1 + 1 → q3.heap[x]? = q2.heap[x]? := fun x hx => by rw [← e3]; exact alloc_old _ _ _ (by omega)
  have k4 : ∀ x, x < w2.heap.size + 1 + 1 + 1 → q4.heap[x]? = q3.heap[x]? := fun x hx => by rw [← e4]; exact alloc_old _ _ _ (by omega)
  have k5 : ∀ x, x < w2.heap.size + 1 + 1 + 1 + 1 → q5.heap[x]? = q4.heap[x]? := fun x hx => by
    rw [← e5, show q4.iter T 0 = q4.alloc (.stringIter T 0) from rfl]; exact alloc_old _ _ _ (by omega)
  have kk : ∀ x, x < w2.heap.size → q5.heap[x]? = w2.heap[x]? := fun x hx => by rw [k5 x (by omega), k4 x (by omega), k3 x (by omega), k2 x (by omega), k1 x hx]
  have n1 : q1.heap[w2.heap.size]? = some (.cells #[vb] 23 (0, 0)) := by rw [← e1]; exact heap_alloc_new _ _
  have n2 : q2.heap[w2.heap.size + 1]? = some (.cells #[.int .i64 0] 58 (0, 0)) := by rw [← z1, ← e2]; exact heap_alloc_new _ _
  have n3 : q3.heap[w2.heap.size + 1 + 1]? = some (.cells #[.bool false] 4 (0, 0)) := by rw [← z2, ← e3]; exact heap_alloc_new _ _
  have n4 : q4.heap[w2.heap.size + 1 + 1 + 1]? = some (.cells #[.bool false] 4 (0, 0)) := by rw [← z3, ← e4]; exact heap_alloc_new _ _
  have n5 : q5.heap[w2.heap.size + 1 + 1 + 1 + 1]? = some (.stringIter T 0) := by rw [← z4, ← e5]; exact World.iter_heap _ _ _
  have hb0 : Below w.heap.size w w0 := ⟨h0.os, h0.tape, h0.output, h0.size, fun x hx => h0.block x hx (by simp)⟩
  have hb1 := hb0.alloc s0 (.cells #[va] 22)
  have hb2 : Below w.heap.size w w2 := hb1.trans ⟨h2.os, h2.tape, h2.output, h2.size, fun x hx => h2.block x (by simp; omega) (by simp)⟩
  have hb5 : Below w.heap.size w q5 := by
    rw [← e5, ← e4, ← e3, ← e2, ← e1]
    refine Below.alloc (Below.alloc (Below.alloc (Below.alloc (hb2.alloc (by omega) _) (by simp; omega) _) (by simp; omega) _) (by simp; omega) _) (by simp; omega) _
  rw [e1, e2, e3, e4, e5]
  refine ⟨⟨?_, ?_, ?_, ?_, owns_keep o2 (fun x hx => kk x (World.ownsRow.lt o2 x hx).2), ⟨va, ?_, owns_keep oA (fun x hx => kk x (World.ownsRow.lt oA x hx).2)⟩, World.ownsRow_nil _ _ _ _, fun _ _ h => (by cases h), hb5, n5, by omega, hn⟩, ⟨by omega, by omega, by omega, by omega, by omega, by omega, by omega, by omega, by omega, by omega, by omega, by omega, by omega, by omega, by omega⟩⟩
  · rw [k5 _ (by omega), k4 _ (by omega), k3 _ (by omega)]; exact n2
  · rw [k5 _ (by omega), k4 _ (by omega)]; exact n3
  · rw [k5 _ (by omega)]; exact n4
  · rw [k5 _ (by omega), k4 _ (by omega), k3 _ (by omega), k2 _ (by omega)]; exact n1
  · rw [kk _ (by omega)]; exact hA

/-- What flush leaves of the words. -/
def fl (args : List (List UInt8)) (buf : List UInt8) (got : Nat) : List (List UInt8) := if got == 2 || (got != 0 && !buf.isEmpty) then args ++ [buf] else args
theorem fl_length (args : List (List UInt8)) (buf : List UInt8) (got : Nat) : (fl args buf got).length ≤ args.length + 1 := by unfold fl; split <;> simp
/-- A name stands here, and takes n bytes. -/
def At (nm rest : List UInt8) (n : Nat) : Prop := (n = nm.length ∧ ∃ t, rest = nm ++ t ∧ Stop t) ∨ (n = nm.length + 2 ∧ ∃ t, rest = 123 :: nm ++ 125 :: t)
/-- What words the rest of a line gives. -/
inductive Rn (nm val : List UInt8) : List (List UInt8) → List UInt8 → Nat → Bool → Nat → List UInt8 → List (List UInt8) → Prop where
  | nil {args : List (List UInt8)} {buf : List UInt8} {got : Nat} : Rn nm val args buf got false 0 [] (fl args buf got)
  | skip {args : List (List UInt8)} {buf : List UInt8} {got m : Nat} {sq : Bool} {b : UInt8} {rest : List UInt8} {A : List (List UInt8)} : b.toNat < 128 → Rn nm val args buf got sq m rest A → Rn nm val args buf got sq (m + 1) (b :: rest) A
  | sp {args : List (List UInt8)} {buf : List UInt8} {got : Nat} {rest : List UInt8} {A : List (List UInt8)} : Rn nm val (fl args buf got) [] 0 false 0 rest A → Rn nm val args buf got false 0 (32 :: rest) A
  | qo {args : List (List UInt8)} {buf : List UInt8} {got : Nat} {rest : List UInt8} {A : List (List UInt8)} : Rn nm val args buf got true 0 rest A → Rn nm val args buf got false 0 (39 :: rest) A
  | qc {args : List (List UInt8)} {buf : List UInt8} {got : Nat} {rest : List UInt8} {A : List (List UInt8)} : Rn nm val args buf 2 false 0 rest A → Rn nm val args buf got true 0 (39 :: rest) A
  | put {args : List (List UInt8)} {buf : List UInt8} {got : Nat} {sq : Bool} {b : UInt8} {rest : List UInt8} {A : List (List UInt8)} : simB b = true → Rn nm val args (buf ++ [b]) 1 sq 0 rest A → Rn nm val args buf got sq 0 (b :: rest) A
  | dol {args : List (List UInt8)} {buf : List UInt8} {got : Nat} {rest : List UInt8} {A : List (List UInt8)} : Rn nm val args (buf ++ [36]) 1 true 0 rest A → Rn nm val args buf got true 0 (36 :: rest) A
  | var {args : List (List UInt8)} {buf : List UInt8} {got n : Nat} {rest : List UInt8} {A : List (List UInt8)} : At nm rest n → Rn nm val args (buf ++ val) 1 false n rest A → Rn nm val args buf got false 0 (36 :: rest) A
structure FrV (l : List UInt8) (pp bx A0 B0 G0 T0 S0 I0 : Nat) (us : List Value) (sq ad : Bool) (i sk : Int) : Prop where
  n : us.length = 419
  s0 : slotV us 0 = .pointer (some ⟨pp, 0, none⟩)
  s1 : slotV us 1 = .string (txt l)
  s6 : slotV us 6 = .pointer (some ⟨A0, 0, none⟩)
  s7 : slotV us 7 = .pointer (some ⟨B0, 0, none⟩)
  s8 : slotV us 8 = .bool false
  s9 : slotV us 9 = .bool false
  s10 : slotV us 10 = .bool sq
  s11 : slotV us 11 = .bool false
  s12 : slotV us 12 = .bool false
  s13 : slotV us 13 = .bool false
  s14 : slotV us 14 = .slice none 0 0
  s15 : slotV us 15 = .int .i64 (-1)
  s16 : slotV us 16 = .pointer (some ⟨G0, 0, none⟩)
  s17 : slotV us 17 = .pointer (some ⟨T0, 0, none⟩)
  s18 : slotV us 18 = .pointer (some ⟨S0, 0, none⟩)
  s19 : slotV us 19 = .bool ad
  s20 : slotV us 20 = .int .i64 sk
  s21 : slotV us 21 = .func (Fn.func 28) #[] #[.pointer (some ⟨bx, 0, none⟩)]
  s22 : slotV us 22 = .func (Fn.func 30) #[] #[.pointer (some ⟨G0, 0, none⟩), .pointer (some ⟨B0, 0, none⟩), .pointer (some ⟨A0, 0, none⟩), .pointer (some ⟨T0, 0, none⟩), .pointer (some ⟨S0, 0, none⟩)]
  s23 : slotV us 23 = .int .i64 i
  s50 : slotV us 50 = .pointer (some ⟨I0, 0, none⟩)
/-- Between two rounds. -/
structure Rv (w : World) (l : List UInt8) (pp bx A0 B0 G0 T0 S0 I0 : Nat) (us : List Value) (args : List (List UInt8)) (buf : List UInt8) (got : Nat) (tq sb sq ad : Bool) (i sk : Int) (m : Nat) (p rest : List UInt8) (vb : Value) (wr : World) : Prop where
  fr : FrV l pp bx A0 B0 G0 T0 S0 I0 us sq ad i sk
  e : l = p ++ rest
  fgot : got ≤ 2
  fargs : args.length ≤ p.length
  fbuf : buf.length ≤ 1001 * p.length
  i0 : -1 ≤ i
  i1 : i + 1 ≤ p.length
  k0 : sk ≤ p.length + m
  k1 : 0 < m → sk = p.length + m
  pv : PV w A0 B0 G0 T0 S0 I0 (txt l) p.length vb (.slice none 0 0) args buf [] got tq sb wr
def RIv (w : World) (l : List UInt8) (pp bx A0 B0 G0 T0 S0 I0 : Nat) (nm val : List UInt8) (A : List (List UInt8)) (gk : Nat) (a : Act) (wr : World) : Prop :=
  ∃ us args buf got tq sb sq ad i sk m p rest vb, a = ⟨us.toArray, []⟩ ∧ Rv w l pp bx A0 B0 G0 T0 S0 I0 us args buf got tq sb sq ad i sk m p rest vb wr ∧ Rn nm val args buf got sq m rest A ∧ rest.length < gk
/-- Where the loop is left. -/
def BIv (w : World) (l : List UInt8) (pp bx A0 B0 G0 T0 S0 I0 : Nat) (A : List (List UInt8)) (a : Act) (wr : World) : Prop :=
  ∃ us args buf, ∃ (got : Nat), ∃ tq sb ad i sk, ∃ (p : Nat), ∃ vb, a = ⟨us.toArray, []⟩ ∧ FrV l pp bx A0 B0 G0 T0 S0 I0 us false ad i sk ∧ got ≤ 2 ∧ args.length ≤ l.length ∧ A = fl args buf got ∧ PV w A0 B0 G0 T0 S0 I0 (txt l) p vb (.slice none 0 0) args buf [] got tq sb wr
/-- What stands fast. -/
structure Cv (w : World) (l : List UInt8) (pp bx ob ocap A0 B0 G0 T0 S0 : Nat) (nm val : List UInt8) : Prop where
  hl : l.length ≤ 1000
  hv : val.length ≤ 1000
  hpp : pp < w.heap.size
  c0 : w.cell? ⟨pp, 0, none⟩ = some (.bool true)
  xs : Ex pp [] w
  k : PB w.heap.size A0 B0 G0 T0 S0
  oc : w.cell? ⟨bx, 2, none⟩ = some (.slice (some ⟨ob, 0, none⟩) 1 ocap)
  o0 : w.cell? ⟨ob, 0, none⟩ = some (.string (txt nm))
  o1 : w.cell? ⟨ob, 1, none⟩ = some (.string (txt val))
  nt : Nt w
  ve : val ≠ []
  vb : ∀ b ∈ val, 32 < b.toNat ∧ b.toNat < 128
  ns : ∀ b ∈ nm, simB b = true
  ne : nm ≠ []
theorem decode7 (b : UInt8) (rest : List UInt8) (h : b.toNat < 128) : decodeL ([b] ++ rest) = (b.toNat, [b].length) := by
  rw [List.singleton_append, decodeL_N]
  simp [decodeN, h]
theorem encode7 (b : UInt8) (h : b.toNat < 128) : Utf8.encode (b.toNat : Int) = txt [b] := by
  rw [encode_enc1 b.toNat (by unfold Sc; omega), enc1_a h]
  simp

end Go.Proofs.YthekblmkcfkboaaDoor
