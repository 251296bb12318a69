/- What Parse keeps in memory, and what each store leaves of it. -/
import Derived.Test.YthekblmkcfkboaaDoorWPlain
import Derived.Test.YthekblmkcfkboaaDoorWApp
namespace Go.Proofs.YthekblmkcfkboaaDoor
open Go.RowKit U8
open Go.Lib hiding intOf

theorem cells_set {w : World} {d : Nat} {C : Array Value} {t : TypeId} (h : w.heap[d]? = some (.cells C t (0, 0))) (k : Nat) (u : Value) : (w.setCell ⟨d, k, none⟩ u).heap[d]? = some (.cells (C.setIfInBounds k u) t (0, 0)) := by
  simp [World.setCell, Array.getElem?_modify, h]
theorem set_size (w : World) (p : Addr) (u : Value) : (w.setCell p u).heap.size = w.heap.size := by simp [World.setCell]
/-- What every call of addRune does with the row of single runes. -/
abbrev strsV (l : List (List UInt8)) : List Value := l.map fun x => Value.string (txt x)
/-- Where its five cells lie. -/
structure PB (n A0 B0 G0 T0 S0 : Nat) : Prop where
  a : n ≤ A0
  b : n ≤ B0
  g : n ≤ G0
  t : n ≤ T0
  s : n ≤ S0
  ab : A0 ≠ B0
  ag : A0 ≠ G0
  aT : A0 ≠ T0
  aS : A0 ≠ S0
  bg : B0 ≠ G0
  bt : B0 ≠ T0
  bs : B0 ≠ S0
  gt : G0 ≠ T0
  gs : G0 ≠ S0
  ts : T0 ≠ S0
structure PW (w : World) (A0 B0 G0 T0 S0 I0 : Nat) (T : ByteArray) (pos : Nat) (vb vk : Value) (args : List (List UInt8)) (buf bt : List UInt8) (got : Nat) (tq : Bool) (wr : World) : Prop where
  g : wr.heap[G0]? = some (.cells #[.int .i64 got] 58 (0, 0))
  t : wr.heap[T0]? = some (.cells #[.bool tq] 4 (0, 0))
  z : wr.heap[S0]? = some (.cells #[.bool false] 4 (0, 0))
  b : wr.heap[B0]? = some (.cells #[vb] 23 (0, 0))
  br : wr.ownsRow w.heap.size 5 1 vb buf.length (byteCells buf)
  a : ∃ va, wr.heap[A0]? = some (.cells #[va] 22 (0, 0)) ∧ wr.ownsRow w.heap.size 9 1 va args.length (strsV args)
  kr : wr.ownsRow w.heap.size 5 1 vk bt.length (byteCells bt)
  sep : ∀ x, vb.ownBlock = some x → vk.ownBlock = some x → False
  bw : Below w.heap.size w wr
  it : wr.heap[I0]? = some (.stringIter T pos)
  n : w.heap.size ≤ I0
  nb : vb.ownBlock ≠ none
theorem owns_keep {w w' : World} {B n : Nat} {e : TypeId} {sz : Nat} {v : Value} {xs : List Value} (h : w.ownsRow B e sz v n xs) (k : ∀ x, v.ownBlock = some x → w'.heap[x]? = w.heap[x]?) : w'.ownsRow B e sz v n xs := by
  refine ⟨h.1, ?_⟩
  rcases h.2 with h2 | ⟨g, cap, cur, rfl, hg, hh, r⟩
  · exact .inl h2
  · exact .inr ⟨g, cap, cur, rfl, hg, (k g rfl).trans hh, r⟩
theorem owns_kind {w : World} {B n : Nat} {e : TypeId} {sz : Nat} {v : Value} {xs : List Value} (h : w.ownsRow B e sz v n xs) {b : Nat} {C : Array Value} {t : TypeId} {m : Nat × Nat} (hb : w.heap[b]? = some (.cells C t m)) (ht : t ≠ e) : ∀ x, v.ownBlock = some x → x ≠ b := by
  intro x hx hxb
  subst hxb
  rcases h.2 with ⟨rfl, _⟩ | ⟨g, cap, cur, rfl, hg, hh, r⟩
  · cases hx
  · cases hx; rw [hh] at hb; cases hb; exact ht rfl
theorem owns_iter {w : World} {B n : Nat} {e : TypeId} {sz : Nat} {v : Value} {xs : List Value} (h : w.ownsRow B e sz v n xs) {b p : Nat} {T : ByteArray} (hb : w.heap[b]? = some (.stringIter T p)) : ∀ x, v.ownBlock = some x → x ≠ b := by
  intro x hx hxb
  subst hxb
  rcases h.2 with ⟨rfl, _⟩ | ⟨g, cap, cur, rfl, hg, hh, r⟩
  · cases hx
  · cases hx; rw [hh] at hb; cases hb
theorem iter_ne {w : World} {b c p : Nat} {T : ByteArray} {C : Array Value} {t : TypeId} {m : Nat × Nat} (hb : w.heap[b]? = some (.stringIter T p)) (hc : w.heap[c]? = some (.cells C t m)) : b ≠ c := by
  rintro rfl; rw [hb] at hc; cases hc
theorem owns_kindF {w : World} {B n B2 n2 : Nat} {e e2 : TypeId} {sz sz2 : Nat} {v v2 : Value} {xs xs2 : List Value} (h : w.ownsRow B e sz v n xs) (h2 : w.ownsRow B2 e2 sz2 v2 n2 xs2) (ht : e ≠ e2) : ∀ x, v.ownBlock = some x → v2.ownBlock ≠ some x := by
  intro x hx hx2
  rcases h2.2 with ⟨rfl, _⟩ | ⟨g, cap, cur, rfl, hg, hh, r⟩
  · cases hx2
  · cases hx2; exact owns_kind h hh (fun q => ht q.symm) g hx rfl
section
variable {w wr w2 : World} {A0 B0 G0 T0 S0 I0 pos : Nat} {T : ByteArray} {vb vk : Value} {args : List (List UInt8)} {buf bt : List UInt8} {got : Nat} {tq : Bool}
/-- All that it holds lies in blocks that stay: so it holds behind. -/
theorem PW.keep (h : PW w A0 B0 G0 T0 S0 I0 T pos vb vk args buf bt got tq wr) (hk : ∀ k, k < wr.heap.size → w2.heap[k]? = wr.heap[k]?) (hb : Below w.heap.size w w2) : PW w A0 B0 G0 T0 S0 I0 T pos vb vk args buf bt got tq w2 := by
  have lt : ∀ {k : Nat} {o : Obj}, wr.heap[k]? = some o → w2.heap[k]? = some o := fun {k o} q => by rw [hk k (Array.getElem?_eq_some_iff.1 q).1]; exact q
  obtain ⟨va, ha, har⟩ := h.a
  exact ⟨lt h.g, lt h.t, lt h.z, lt h.b, owns_keep h.br (fun x hx => hk x (World.ownsRow.lt h.br x hx).2), ⟨va, lt ha, owns_keep har (fun x hx => hk x (World.ownsRow.lt har x hx).2)⟩, owns_keep h.kr (fun x hx => hk x (World.ownsRow.lt h.kr x hx).2), h.sep, hb, lt h.it, h.n, h.nb⟩
theorem PW.below (h : PW w A0 B0 G0 T0 S0 I0 T pos vb vk args buf bt got tq wr) (hb : Below wr.heap.size wr w2) : PW w A0 B0 G0 T0 S0 I0 T pos vb vk args buf bt got tq w2 :=
  h.keep (fun k hk => hb.block k hk) (h.bw.trans (hb.mono h.bw.size))
theorem PW.setG (k : PB w.heap.size A0 B0 G0 T0 S0) (h : PW w A0 B0 G0 T0 S0 I0 T pos vb vk args buf bt got tq wr) (g' : Nat) : PW w A0 B0 G0 T0 S0 I0 T pos vb vk args buf bt g' tq (wr.setCell ⟨G0, 0, none⟩ (.int .i64 g')) := by
  have o : ∀ x, x ≠ G0 → (wr.setCell ⟨G0, 0, none⟩ (.int .i64 g')).heap[x]? = wr.heap[x]? := fun x hx => Below.heap_setCell _ _ _ _ hx
  obtain ⟨va, ha, har⟩ := h.a
  refine ⟨cells_set h.g 0 _, ?_, ?_, ?_, owns_keep h.br (fun x hx => o x (owns_kind h.br h.g (by decide) x hx)), ⟨va, ?_, owns_keep har (fun x hx => o x (owns_kind har h.g (by decide) x hx))⟩, owns_keep h.kr (fun x hx => o x (owns_kind h.kr h.g (by decide) x hx)), h.sep, h.bw.setCell k.g _, by rw [o _ (iter_ne h.it h.g)]; exact h.it, h.n, h.nb⟩
  · rw [o _ k.gt.symm]; exact h.t
  · rw [o _ k.gs.symm]; exact h.z
  · rw [o _ k.bg]; exact h.b
  · rw [o _ k.ag]; exact ha
theorem PW.setT (k : PB w.heap.size A0 B0 G0 T0 S0) (h : PW w A0 B0 G0 T0 S0 I0 T pos vb vk args buf bt got tq wr) (t' : Bool) : PW w A0 B0 G0 T0 S0 I0 T pos vb vk args buf bt got t' (wr.setCell ⟨T0, 0, none⟩ (.bool t')) := by
  have o : ∀ x, x ≠ T0 → (wr.setCell ⟨T0, 0, none⟩ (.bool t')).heap[x]? = wr.heap[x]? := fun x hx => Below.heap_setCell _ _ _ _ hx
  obtain ⟨va, ha, har⟩ := h.a
  refine ⟨?_, cells_set h.t 0 _, ?_, ?_, owns_keep h.br (fun x hx => o x (owns_kind h.br h.t (by decide) x hx)), ⟨va, ?_, owns_keep har (fun x hx => o x (owns_kind har h.t (by decide) x hx))⟩, owns_keep h.kr (fun x hx => o x (owns_kind h.kr h.t (by decide) x hx)), h.sep, h.bw.setCell k.t _, by rw [o _ (iter_ne h.it h.t)]; exact h.it, h.n, h.nb⟩
  · rw [o _ k.gt]; exact h.g
  · rw [o _ k.ts.symm]; exact h.z
  · rw [o _ k.bt]; exact h.b
  · rw [o _ k.aT]; exact ha
/-- The buffer's row has grown (by an append onto it, behind new blocks), and is put back. -/
theorem PW.bufTo (k : PB w.heap.size A0 B0 G0 T0 S0) (h : PW w A0 B0 G0 T0 S0 I0 T pos vb vk args buf bt got tq wr) {wa : World} (ha : ∀ x, x < wr.heap.size → wa.heap[x]? = wr.heap[x]?) (hba : Below w.heap.size w wa) (hsz : wr.heap.size ≤ wa.heap.size) {vb' : Value} {buf' : List UInt8}
    (hg : wa.grownBy w2 vb.ownBlock) (hown : w2.ownsRow w.heap.size 5 1 vb' buf'.length (byteCells buf')) (hmv : Moved wa vb vb') :
    w2.cell? ⟨B0, 0, none⟩ = some vb ∧ w2.frozen? ⟨B0, 0, none⟩ = false ∧ B0 < w2.heap.size ∧ PW w A0 B0 G0 T0 S0 I0 T pos vb' vk args buf' bt got tq (w2.setCell ⟨B0, 0, none⟩ vb') := by
  obtain ⟨va, hA, har⟩ := h.a
  have hk1 : ∀ x, x < wr.heap.size → vb.ownBlock ≠ some x → w2.heap[x]? = wr.heap[x]? := fun x hx hne => by rw [hg.block x (by omega) (fun e => hne e.symm), ha x hx]
  have lt : ∀ {x : Nat} {o : Obj}, wr.heap[x]? = some o → x < wr.heap.size := fun q => (Array.getElem?_eq_some_iff.1 q).1
  have hB := (hk1 B0 (lt h.b) (fun e => owns_kind h.br h.b (by decide) _ e rfl)).trans h.b
  have o : ∀ x, x ≠ B0 → (w2.setCell ⟨B0, 0, none⟩ vb').heap[x]? = w2.heap[x]? := fun x hx => Below.heap_setCell _ _ _ _ hx
  have c : ∀ {x : Nat} {C : Array Value} {t : TypeId} {m : Nat × Nat}, wr.heap[x]? = some (.cells C t m) → t ≠ 5 → x ≠ B0 → (w2.setCell ⟨B0, 0, none⟩ vb').heap[x]? = some (.cells C t m) := fun q ht hx => by
    rw [o _ hx, hk1 _ (lt q) (fun e => owns_kind h.br q ht _ e rfl)]; exact q
  refine ⟨by simp [World.cell?, hB], by simp [World.frozen?, hB], (Array.getElem?_eq_some_iff.1 hB).1, c h.g (by decide) k.bg.symm, c h.t (by decide) k.bt.symm, c h.z (by decide) k.bs.symm, cells_set hB 0 _, owns_keep hown (fun x hx => o x (owns_kind hown hB (by decide) x hx)), ⟨va, c hA (by decide) k.ab, ?_⟩, ?_, ?_, ?_, by rw [o _ (iter_ne h.it h.b), hk1 _ (lt h.it) (fun e => owns_iter h.br h.it _ e rfl)]; exact h.it, h.n, (by rcases hmv with e | ⟨y, e, _⟩ <;> rw [e]; exact h.nb; simp)⟩
  · refine owns_keep har (fun x hx => ?_)
    have hxl := (World.ownsRow.lt har x hx).2
    rw [o x (owns_kind har h.b (by decide) x hx), hk1 x hxl (owns_kindF har h.br (by decide) x hx)]
  · refine owns_keep h.kr (fun x hx => ?_)
    have hxl := (World.ownsRow.lt h.kr x hx).2
    rw [o x (owns_kind h.kr h.b (by decide) x hx), hk1 x hxl (fun e => h.sep x e hx)]
  · intro x h1 h2
    have hxl := (World.ownsRow.lt h.kr x h2).2
    rcases hmv with e | ⟨y, e, hy⟩
    · rw [e] at h1; exact h.sep x h1 h2
    · rw [e] at h1; cases h1; omega
  · exact (hba.grown hg hba.size (fun x hx => (World.ownsRow.lt h.br x hx).1)).setCell k.b _
/-- The backtick's row has grown. -/
theorem PW.bkTo (h : PW w A0 B0 G0 T0 S0 I0 T pos vb vk args buf bt got tq wr) {wa : World} (ha : ∀ x, x < wr.heap.size → wa.heap[x]? = wr.heap[x]?) (hba : Below w.heap.size w wa) (hsz : wr.heap.size ≤ wa.heap.size) {vk' : Value} {bt' : List UInt8}
    (hg : wa.grownBy w2 vk.ownBlock) (hown : w2.ownsRow w.heap.size 5 1 vk' bt'.length (byteCells bt')) (hmv : Moved wa vk vk') :
    PW w A0 B0 G0 T0 S0 I0 T pos vb vk' args buf bt' got tq w2 := by
  obtain ⟨va, hA, har⟩ := h.a
  have hk1 : ∀ x, x < wr.heap.size → vk.ownBlock ≠ some x → w2.heap[x]? = wr.heap[x]? := fun x hx hne => by rw [hg.block x (by omega) (fun e => hne e.symm), ha x hx]
  have lt : ∀ {x : Nat} {o : Obj}, wr.heap[x]? = some o → x < wr.heap.size := fun q => (Array.getElem?_eq_some_iff.1 q).1
  have c : ∀ {x : Nat} {C : Array Value} {t : TypeId} {m : Nat × Nat}, wr.heap[x]? = some (.cells C t m) → t ≠ 5 → w2.heap[x]? = some (.cells C t m) := fun q ht => by
    rw [hk1 _ (lt q) (fun e => owns_kind h.kr q ht _ e rfl)]; exact q
  refine ⟨c h.g (by decide), c h.t (by decide), c h.z (by decide), c h.b (by decide), ?_, ⟨va, c hA (by decide), ?_⟩, hown, ?_, hba.grown hg hba.size (fun x hx => (World.ownsRow.lt h.kr x hx).1), by rw [hk1 _ (lt h.it) (fun e => owns_iter h.kr h.it _ e rfl)]; exact h.it, h.n, h.nb⟩
  · refine owns_keep h.br (fun x hx => hk1 x (World.ownsRow.lt h.br x hx).2 (fun e => h.sep x hx e))
  · refine owns_keep har (fun x hx => hk1 x (World.ownsRow.lt har x hx).2 (owns_kindF har h.kr (by decide) x hx))
  · intro x h1 h2
    have hxl := (World.ownsRow.lt h.br x h1).2
    rcases hmv with e | ⟨y, e, hy⟩
    · rw [e] at h2; exact h.sep x h1 h2
    · rw [e] at h2; cases h2; omega
theorem PW.setS (k : PB w.heap.size A0 B0 G0 T0 S0) (h : PW w A0 B0 G0 T0 S0 I0 T pos vb vk args buf bt got tq wr) : PW w A0 B0 G0 T0 S0 I0 T pos vb vk args buf bt got tq (wr.setCell ⟨S0, 0, none⟩ (.bool false)) := by
  have o : ∀ x, x ≠ S0 → (wr.setCell ⟨S0, 0, none⟩ (.bool false)).heap[x]? = wr.heap[x]? := fun x hx => Below.heap_setCell _ _ _ _ hx
  obtain ⟨va, ha, har⟩ := h.a
  refine ⟨?_, ?_, cells_set h.z 0 _, ?_, owns_keep h.br (fun x hx => o x (owns_kind h.br h.z (by decide) x hx)), ⟨va, ?_, owns_keep har (fun x hx => o x (owns_kind har h.z (by decide) x hx))⟩, owns_keep h.kr (fun x hx => o x (owns_kind h.kr h.z (by decide) x hx)), h.sep, h.bw.setCell k.s _, by rw [o _ (iter_ne h.it h.z)]; exact h.it, h.n, h.nb⟩
  · rw [o _ k.gs]; exact h.g
  · rw [o _ k.ts]; exact h.t
  · rw [o _ k.bs]; exact h.b
  · rw [o _ k.aS]; exact ha
/-- The words have grown by one, and are put back. -/
theorem PW.argTo (k : PB w.heap.size A0 B0 G0 T0 S0) (h : PW w A0 B0 G0 T0 S0 I0 T pos vb vk args buf bt got tq wr) {va : Value} (hA : wr.heap[A0]? = some (.cells #[va] 22 (0, 0))) (har : wr.ownsRow w.heap.size 9 1 va args.length (strsV args)) {wa : World} (ha : ∀ x, x < wr.heap.size → wa.heap[x]? = wr.heap[x]?) (hba : Below w.heap.size w wa) (hsz : wr.heap.size ≤ wa.heap.size) {va' : Value} {args' : List (List UInt8)}
    (hg : wa.grownBy w2 va.ownBlock) (hown : w2.ownsRow w.heap.size 9 1 va' args'.length (strsV args')) :
    w2.cell? ⟨A0, 0, none⟩ = some va ∧ w2.frozen? ⟨A0, 0, none⟩ = false ∧ A0 < w2.heap.size ∧ PW w A0 B0 G0 T0 S0 I0 T pos vb vk args' buf bt got tq (w2.setCell ⟨A0, 0, none⟩ va') := by
  have hk1 : ∀ x, x < wr.heap.size → va.ownBlock ≠ some x → w2.heap[x]? = wr.heap[x]? := fun x hx hne => by rw [hg.block x (by omega) (fun e => hne e.symm), ha x hx]
  have lt : ∀ {x : Nat} {o : Obj}, wr.heap[x]? = some o → x < wr.heap.size := fun q => (Array.getElem?_eq_some_iff.1 q).1
  have hA2 := (hk1 A0 (lt hA) (fun e => owns_kind har hA (by decide) _ e rfl)).trans hA
  have o : ∀ x, x ≠ A0 → (w2.setCell ⟨A0, 0, none⟩ va').heap[x]? = w2.heap[x]? := fun x hx => Below.heap_setCell _ _ _ _ hx
  have c : ∀ {x : Nat} {C : Array Value} {t : TypeId} {m : Nat × Nat}, wr.heap[x]? = some (.cells C t m) → t ≠ 9 → x ≠ A0 → (w2.setCell ⟨A0, 0, none⟩ va').heap[x]? = some (.cells C t m) := fun q ht hx => by
    rw [o _ hx, hk1 _ (lt q) (fun e => owns_kind har q ht _ e rfl)]; exact q
  refine ⟨by simp [World.cell?, hA2], by simp [World.frozen?, hA2], (Array.getElem?_eq_some_iff.1 hA2).1, c h.g (by decide) k.ag.symm, c h.t (by decide) k.aT.symm, c h.z (by decide) k.aS.symm, c h.b (by decide) k.ab.symm, ?_, ⟨va', cells_set hA2 0 _, owns_keep hown (fun x hx => o x (owns_kind hown hA2 (by decide) x hx))⟩, ?_, h.sep, ?_, by rw [o _ (iter_ne h.it hA), hk1 _ (lt h.it) (fun e => owns_iter har h.it _ e rfl)]; exact h.it, h.n, h.nb⟩
  · refine owns_keep h.br (fun x hx => ?_)
    rw [o x (owns_kind h.br hA (by decide) x hx), hk1 x (World.ownsRow.lt h.br x hx).2 (owns_kindF h.br har (by decide) x hx)]
  · refine owns_keep h.kr (fun x hx => ?_)
    rw [o x (owns_kind h.kr hA (by decide) x hx), hk1 x (World.ownsRow.lt h.kr x hx).2 (owns_kindF h.kr har (by decide) x hx)]
  · exact (hba.grown hg hba.size (fun x hx => (World.ownsRow.lt har x hx).1)).setCell k.a _
/-- The buffer is cut to nothing, and no word is begun. -/
theorem PW.cut (k : PB w.heap.size A0 B0 G0 T0 S0) {g n cap : Nat} (h : PW w A0 B0 G0 T0 S0 I0 T pos (.slice (some ⟨g, 0, none⟩) n cap) vk args buf bt got tq wr) :
    PW w A0 B0 G0 T0 S0 I0 T pos (.slice (some ⟨g, 0, none⟩) 0 cap) vk args [] bt 0 false ((((wr.setCell ⟨B0, 0, none⟩ (.slice (some ⟨g, 0, none⟩) 0 cap)).setCell ⟨G0, 0, none⟩ (.int .i64 0)).setCell ⟨T0, 0, none⟩ (.bool false)).setCell ⟨S0, 0, none⟩ (.bool false)) := by
  have hown : wr.ownsRow w.heap.size 5 1 (.slice (some ⟨g, 0, none⟩) 0 cap) 0 (byteCells []) := by
    rcases h.br.2 with ⟨e, _⟩ | ⟨g', cap', cur, e, h1, h2, h3, h4, h5, h6⟩
    · cases e
    · cases e
      exact ⟨rfl, .inr ⟨g, cap, cur, rfl, h1, h2, by omega, h4, h5, rfl⟩⟩
  have k1 := (h.bufTo k (w2 := wr) (wa := wr) (fun _ _ => rfl) h.bw (Nat.le_refl _) (vb' := .slice (some ⟨g, 0, none⟩) 0 cap) (buf' := []) ⟨rfl, rfl, rfl, Nat.le_refl _, fun _ _ _ => rfl⟩ hown (.inl rfl)).2.2.2
  exact ((k1.setG k 0).setT k false).setS k
/-- The range goes on. -/
theorem PW.next (h : PW w A0 B0 G0 T0 S0 I0 T pos vb vk args buf bt got tq wr) (pos' : Nat) : PW w A0 B0 G0 T0 S0 I0 T pos' vb vk args buf bt got tq (wr.iterAt I0 T pos') := by
  have o : ∀ x, x ≠ I0 → (wr.iterAt I0 T pos').heap[x]? = wr.heap[x]? := fun x hx => iterAt_other wr I0 x T pos' hx
  obtain ⟨va, hA, har⟩ := h.a
  have c : ∀ {x : Nat} {C : Array Value} {t : TypeId} {m : Nat × Nat}, wr.heap[x]? = some (.cells C t m) → (wr.iterAt I0 T pos').heap[x]? = some (.cells C t m) := fun q => by
    rw [o _ (iter_ne h.it q).symm]; exact q
  exact ⟨c h.g, c h.t, c h.z, c h.b, owns_keep h.br (fun x hx => o x (owns_iter h.br h.it x hx)), ⟨va, c hA, owns_keep har (fun x hx => o x (owns_iter har h.it x hx))⟩, owns_keep h.kr (fun x hx => o x (owns_iter h.kr h.it x hx)), h.sep, below_iterAt h.bw h.n T pos', iterAt_heap wr I0 T _ pos' h.it, h.n, h.nb⟩
end

end Go.Proofs.YthekblmkcfkboaaDoor
