/- What the Translator is in memory, and what keeps it. -/
import Derived.Test.YtbomlhhpokknaaaDoorTNext
import Derived.Maps.OwnOps
import Derived.Maps.OwnSet
import Derived.Maps.Views
namespace Go.Proofs.YtbomlhhpokknaaaDoor
open Go.RowKit U8
open Go.Lib hiding intOf
open Go.Maps (Keyed has IsMap)

/-- A block's kind: the type of its cells, or none. -/
def tagOf : Obj → Option TypeId
  | .cells _ t _ => some t
  | _ => none
/-- All blocks but those of one kind stay. -/
def Kp (x : Option TypeId) (w w' : World) : Prop := ∀ (k : Nat) (o : Obj), w.heap[k]? = some o → tagOf o ≠ x → w'.heap[k]? = some o
theorem Kp.refl (x : Option TypeId) (w : World) : Kp x w w := fun _ _ h _ => h
theorem Kp.alloc (x : Option TypeId) (w : World) (o : Obj) : Kp x w (w.alloc o) := fun k o' h _ => by
  have hk : k < w.heap.size := (Array.getElem?_eq_some_iff.1 h).1
  show (w.heap.push o)[k]? = _
  rw [Array.getElem?_push, if_neg (by omega)]; exact h
theorem Kp.trans {x : Option TypeId} {a b c : World} (h : Kp x a b) (k : Kp x b c) : Kp x a c := fun i o hi ht => k i o (h i o hi ht) ht
theorem Kp.set {w : World} {b : Nat} {C : Array Value} {t : TypeId} {m : Nat × Nat} (h : w.heap[b]? = some (.cells C t m)) (off : Nat) (u : Value) : Kp (some t) w (w.setCell ⟨b, off, none⟩ u) := fun k o hk ht => by
  by_cases e : k = b
  · subst e; rw [h] at hk; cases hk; exact absurd rfl ht
  · rw [Below.heap_setCell _ _ _ _ e]; exact hk
theorem Kp.below {x : Option TypeId} {w w' : World} (h : Below w.heap.size w w') : Kp x w w' := fun k o hk _ => by
  have : k < w.heap.size := (Array.getElem?_eq_some_iff.1 hk).1
  rw [h.block k this]; exact hk
theorem Kp.row {w w' : World} {B n : Nat} {e : TypeId} {sz : Nat} {v : Value} {xs : List Value} (h : w.ownsRow B e sz v n xs) (hg : w.grownBy w' v.ownBlock) : Kp (some e) w w' := fun k o hk ht => by
  have hl : k < w.heap.size := (Array.getElem?_eq_some_iff.1 hk).1
  rw [hg.block k hl]
  · exact hk
  · intro e'
    rcases h.2 with ⟨rfl, _⟩ | ⟨g, cap, cur, rfl, _, hh, _⟩
    · cases e'
    · simp [Value.ownBlock] at e'
      subst e'
      rw [hh] at hk; cases hk; exact ht rfl
theorem Kp.map {P : Program} {k0 : TypeId} {R : Value → Option (DataW Unit × List MemPlace)} {w w' : World} {b n : Nat} {D : DataW Unit} (h : w.ownsMap P k0 R b n D) (hg : w.grownBy w' (some b)) : Kp none w w' := fun k o hk ht => by
  have hl : k < w.heap.size := (Array.getElem?_eq_some_iff.1 hk).1
  rw [hg.block k hl]
  · exact hk
  · intro e'
    cases e'
    obtain ⟨es, cl, hb, _⟩ := h
    rw [hb] at hk; cases hk; exact ht rfl
/-- What a call may write: what is its own from B on, and block b. -/
structure Chg (B b : Nat) (w w' : World) : Prop where
  os : w'.os = w.os
  tape : w'.tape = w.tape
  output : w'.output = w.output
  size : w.heap.size ≤ w'.heap.size
  block : ∀ k, k < B → k ≠ b → w'.heap[k]? = w.heap[k]?
theorem Chg.refl (B b : Nat) (w : World) : Chg B b w w := ⟨rfl, rfl, rfl, Nat.le_refl _, fun _ _ _ => rfl⟩
theorem Chg.trans {B b : Nat} {x y z : World} (h : Chg B b x y) (k : Chg B b y z) : Chg B b x z :=
  ⟨k.os.trans h.os, k.tape.trans h.tape, k.output.trans h.output, Nat.le_trans h.size k.size, fun i h1 h2 => (k.block i h1 h2).trans (h.block i h1 h2)⟩
theorem Chg.alloc {B b : Nat} {x y : World} (h : Chg B b x y) (hB : B ≤ y.heap.size) (o : Obj) : Chg B b x (y.alloc o) :=
  h.trans ⟨rfl, rfl, rfl, by simp, fun k hk _ => by
    show (y.heap.push o)[k]? = _
    rw [Array.getElem?_push, if_neg (by omega)]⟩
theorem Chg.set {B b : Nat} {x y : World} (h : Chg B b x y) {p : Addr} (hp : B ≤ p.block ∨ p.block = b) (u : Value) : Chg B b x (y.setCell p u) :=
  h.trans ⟨rfl, rfl, rfl, by simp [World.setCell], fun k hk hb => Below.heap_setCell _ _ _ _ (by omega)⟩
theorem Chg.grown {B b : Nat} {x y z : World} (h : Chg B b x y) {row : Option Nat} (hg : y.grownBy z row) (hrow : ∀ k, row = some k → B ≤ k) (hB : B ≤ y.heap.size) : Chg B b x z :=
  h.trans ⟨hg.os, hg.tape, hg.output, hg.size, fun k hk _ => hg.block k (by omega) (fun e => by have := hrow k e.symm; omega)⟩
theorem Chg.below {B b : Nat} {x y z : World} (h : Chg B b x y) (hb : Below y.heap.size y z) (hB : B ≤ y.heap.size) : Chg B b x z :=
  h.trans ⟨hb.os, hb.tape, hb.output, hb.size, fun k hk _ => hb.block k (by omega)⟩
theorem Below.of_chg {B b n : Nat} {w w' : World} (h : Chg B b w w') (hn : n ≤ B) (hb : n ≤ b) : Below n w w' := ⟨h.os, h.tape, h.output, h.size, fun k hk => h.block k (by omega) (by omega)⟩
theorem Chg.mono {B B' b : Nat} {w w' : World} (h : Chg B b w w') (hB : B' ≤ B) : Chg B' b w w' := ⟨h.os, h.tape, h.output, h.size, fun k h1 h2 => h.block k (by omega) h2⟩

abbrev dictT : TypeId := 80
abbrev trT : TypeId := 61
abbrev rngT : TypeId := 83
abbrev ptrT : TypeId := 81
abbrev runT : TypeId := 21
abbrev ikey (x : Int) : Lit := .int .i32 x
def DictAt (B : Nat) (q : Value) : Option (List (Int × Int)) → World → Prop
  | none, _ => q = .pointer none
  | some L, w => ∃ d C, q = .pointer (some ⟨d, 0, none⟩) ∧ B ≤ d ∧ w.heap[d]? = some (.cells C 80 (0, 0)) ∧ C.size = 256 ∧ ∀ i : Nat, i < 128 → C[i]? = some (.int .i32 ((lkp L i).getD 0)) ∧ C[128 + i]? = some (.bool (lkp L i).isSome)
def Says (L : List (Int × Int)) (D : DataW Unit) : Prop := IsMap D ∧ ∀ x, (lkp L x = none → has D (ikey x) = false) ∧ (∀ v, lkp L x = some v → has D (ikey x) = true ∧ D.atKey (ikey x) (.lit (.int .i32 0)) = .lit (.int .i32 v))
def MapAt (B n : Nat) (m : Value) : Option (List (Int × Int)) → World → Prop
  | none, _ => m = .map none
  | some L, w => ∃ k D n', m = .map (some k) ∧ B ≤ k ∧ n' ≤ n ∧ w.ownsMap Tryd.prog 21 (plainElem Tryd.prog 21) k n' D ∧ Says L D
def rngCells (R : Int × Int × Int × Int) : Array Value := #[.int .i32 R.1, .int .i32 R.2.1, .int .i32 R.2.2.1, .int .i32 R.2.2.2]
def ptrs (gs : List Nat) : List Value := gs.map fun g => .pointer (some ⟨g, 0, none⟩)
def RgsAt (B : Nat) (v : Value) (l : List (Int × Int × Int × Int)) (w : World) : Prop :=
  ∃ gs : List Nat, w.ownsRow B 81 1 v l.length (ptrs gs) ∧ ∀ (i g : Nat) (R : Int × Int × Int × Int), gs[i]? = some g → l[i]? = some R → B ≤ g ∧ w.heap[g]? = some (.cells (rngCells R) 83 (0, 0))
def TrAt (B b : Nat) (T : Tr) (mr rv dl hp : Value) (w : World) : Prop :=
  ∃ q m v, w.heap[b]? = some (.cells #[q, m, v, mr, rv, dl, hp] 61 (0, 0)) ∧ b < B ∧ DictAt B q T.dict w ∧ MapAt B T.sing.length m T.rmap w ∧ RgsAt B v T.rgs w
def ints (l : List Int) : List Value := l.map (Value.int .i32)
/-- The single runes, a row of the call's own. -/
def SgAt (B : Nat) (v : Value) (l : List Int) (w : World) : Prop := w.ownsRow B 21 1 v l.length (ints l)

theorem DictAt.keep {B : Nat} {q : Value} {o : Option (List (Int × Int))} {w w' : World} {x : Option TypeId} (h : DictAt B q o w) (hk : Kp x w w') (hx : some dictT ≠ x) : DictAt B q o w' := by
  cases o with
  | none => exact h
  | some L =>
    obtain ⟨d, C, h1, h2, h3, h4⟩ := h
    exact ⟨d, C, h1, h2, hk d _ h3 hx, h4⟩
theorem MapAt.keep {B n : Nat} {q : Value} {o : Option (List (Int × Int))} {w w' : World} {x : Option TypeId} (h : MapAt B n q o w) (hk : Kp x w w') (hx : (none : Option TypeId) ≠ x) : MapAt B n q o w' := by
  cases o with
  | none => exact h
  | some L =>
    obtain ⟨k, D, n', h1, h2, h3, ⟨es, cl, hb, r⟩, h5⟩ := h
    exact ⟨k, D, n', h1, h2, h3, ⟨es, cl, hk k _ hb hx, r⟩, h5⟩
theorem row_keep {B n : Nat} {e : TypeId} {sz : Nat} {v : Value} {xs : List Value} {w w' : World} {x : Option TypeId} (h : w.ownsRow B e sz v n xs) (hk : Kp x w w') (hx : some e ≠ x) : w'.ownsRow B e sz v n xs := by
  refine ⟨h.1, ?_⟩
  rcases h.2 with h2 | ⟨g, cap, cur, hv, hg, hh, r⟩
  · exact .inl h2
  · exact .inr ⟨g, cap, cur, hv, hg, hk g _ hh hx, r⟩
theorem RgsAt.keep {B : Nat} {v : Value} {l : List (Int × Int × Int × Int)} {w w' : World} {x : Option TypeId} (h : RgsAt B v l w) (hk : Kp x w w') (hx : some ptrT ≠ x) (hy : some rngT ≠ x) : RgsAt B v l w' := by
  obtain ⟨gs, h1, h2⟩ := h
  exact ⟨gs, row_keep h1 hk hx, fun i g R a c => ⟨(h2 i g R a c).1, hk g _ (h2 i g R a c).2 hy⟩⟩
theorem MapAt.mono {B n m : Nat} {q : Value} {o : Option (List (Int × Int))} {w : World} (h : MapAt B n q o w) (hm : n ≤ m) : MapAt B m q o w := by
  cases o with
  | none => exact h
  | some L =>
    obtain ⟨k, D, n', h1, h2, h3, r⟩ := h
    exact ⟨k, D, n', h1, h2, by omega, r⟩
theorem TrAt.below {B b : Nat} {T : Tr} {mr rv dl hp : Value} {w w' : World} (h : TrAt B b T mr rv dl hp w) (hb : Below w.heap.size w w') : TrAt B b T mr rv dl hp w' := by
  obtain ⟨q, m, v, h1, h2, h3, h4, h5⟩ := h
  have k : ∀ x, Kp x w w' := fun x => Kp.below hb
  exact ⟨q, m, v, k (some runT) b _ h1 (show (some trT : Option TypeId) ≠ some runT by decide), h2, h3.keep (k (some runT)) (by decide), h4.keep (k (some runT)) (by decide), h5.keep (k (some runT)) (by decide) (by decide)⟩
theorem SgAt.below {B : Nat} {v : Value} {l : List Int} {w w' : World} (h : SgAt B v l w) (hb : Below w.heap.size w w') : SgAt B v l w' := owns_below h hb
theorem says_nil : Says [] (.map []) := ⟨Go.Maps.isMap_empty, fun x => ⟨fun _ => rfl, fun v h => (by cases h)⟩⟩
theorem ikey_ne {x y : Int} (h : x ≠ y) : ikey x ≠ ikey y := fun e => h (by injection e)
theorem says_put {L : List (Int × Int)} {D : DataW Unit} (h : Says L D) (f t : Int) : Says ((f, t) :: L) (D.put (ikey f) (.lit (.int .i32 t))) := by
  refine ⟨h.1.put _ _, fun x => ?_⟩
  rw [lkp_cons]
  by_cases e : f = x
  · subst e
    rw [if_pos rfl]
    refine ⟨fun h => (by cases h), fun v hv => ?_⟩
    cases hv
    exact ⟨Go.Maps.has_put_same h.1 (by simp [WideAt.IsKeyLit]) _, Go.Maps.atKey_put_same h.1 (by simp [WideAt.IsKeyLit]) _ _⟩
  · rw [if_neg e, Go.Maps.has_put_other (ikey_ne (fun h => e h.symm)), Go.Maps.atKey_put_other (ikey_ne (fun h => e h.symm))]
    exact h.2 x
theorem says_del {L : List (Int × Int)} {D : DataW Unit} (h : Says L D) (r : Int) : Says (dlt r L) (D.del (ikey r)) := by
  refine ⟨h.1.del _, fun x => ?_⟩
  by_cases e : x = r
  · subst e
    rw [lkp_dlt_same]
    exact ⟨fun _ => Go.Maps.has_del_same, fun v hv => (by cases hv)⟩
  · rw [lkp_dlt_other r x e, Go.Maps.has_del_other (ikey_ne e), Go.Maps.atKey_del_other (ikey_ne e)]
    exact h.2 x

end Go.Proofs.YtbomlhhpokknaaaDoor
