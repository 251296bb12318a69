/- Properties of any number of keys: how they are made, set, read; their text. -/
import Derived.Test.YtdfhidnhkeapbaaDoorGMap
namespace Go.Proofs.YtdfhidnhkeapbaaDoor
open Go.RowKit U8
open Go.Lib hiding intOf

theorem al_old (W : World) (o : Obj) (k : Nat) (h : k < W.heap.size) : (W.alloc o).heap[k]? = W.heap[k]? := by
  show (W.heap.push o)[k]? = W.heap[k]?
  rw [Array.getElem?_push, if_neg (by omega)]
theorem al_new (W : World) (o : Obj) (k : Nat) (h : k = W.heap.size) : (W.alloc o).heap[k]? = some o := by
  subst h
  show (W.heap.push o)[W.heap.size]? = some o
  simp
abbrev KV := List (List UInt8 × List UInt8)
def keysV (kv : KV) : List Value := strsV (kv.map Prod.fst)
/-- A row of texts is no block of another make. -/
theorem own_ne_cells {B b n : Nat} {v : Value} {xs : List Value} {w : World} {x : Array Value} {T : TypeId} {fz : Nat × Nat} (h : w.ownsRow B 9 1 v n xs) (hb : w.heap[b]? = some (.cells x T fz)) (hT : T ≠ 9) : v.ownBlock ≠ some b := by
  intro e
  rcases h.2 with ⟨rfl, _⟩ | ⟨g, cap, cur, rfl, _, hg, _⟩
  · cases e
  · have : g = b := by simpa [Value.ownBlock] using e
    subst this
    rw [hg] at hb
    cases hb
    exact hT rfl
theorem own_ne_map {B b n : Nat} {v : Value} {xs : List Value} {w : World} {es : Array MapEntry} {cl : Nat} (h : w.ownsRow B 9 1 v n xs) (hb : w.heap[b]? = some (.map es cl)) : v.ownBlock ≠ some b := by
  intro e
  rcases h.2 with ⟨rfl, _⟩ | ⟨g, cap, cur, rfl, _, hg, _⟩
  · cases e
  · have : g = b := by simpa [Value.ownBlock] using e
    subst this
    rw [hg] at hb
    cases hb
theorem owns_of {B n : Nat} {v : Value} {xs : List Value} {w w' : World} (h : w.ownsRow B 9 1 v n xs) (hb : ∀ g, v.ownBlock = some g → w'.heap[g]? = w.heap[g]?) : w'.ownsRow B 9 1 v n xs := by
  refine ⟨h.1, ?_⟩
  rcases h.2 with h2 | ⟨g, cap, cur, rfl, hg, hh, r⟩
  · exact .inl h2
  · exact .inr ⟨g, cap, cur, rfl, hg, (hb g rfl).trans hh, r⟩
/-- What a store into the properties leaves alone. -/
def KeptP (b m : Nat) (w w' : World) : Prop := ∀ r, r < w.heap.size → r ≠ b → r ≠ m → (∀ x fz, w.heap[r]? ≠ some (.cells x 9 fz)) → w'.heap[r]? = w.heap[r]?
theorem own_ne_other {B r n : Nat} {v : Value} {xs : List Value} {w : World} (h : w.ownsRow B 9 1 v n xs) (hr : ∀ x fz, w.heap[r]? ≠ some (.cells x 9 fz)) : v.ownBlock ≠ some r := by
  intro e
  rcases h.2 with ⟨rfl, _⟩ | ⟨g, cap, cur, rfl, _, hg, _⟩
  · cases e
  · have : g = r := by simpa [Value.ownBlock] using e
    subst this
    exact hr _ _ hg
end Go.Proofs.YtdfhidnhkeapbaaDoor
