/- Properties made of a list, and their text. -/
import Derived.Test.YtdfhidnhkeapbaaDoorGObj
namespace Go.Proofs.YtdfhidnhkeapbaaDoor
open Go.RowKit U8
open Go.Lib hiding intOf

/-- A property as an argument: its key, its raw value, its value, its comments. -/
structure PropA where
  k : List UInt8
  r : List UInt8
  x : List UInt8
  c : List (List UInt8)
/-- A slice of properties. -/
def Px (w : World) (v : Value) (ps : List PropA) : Prop := ∃ ao cap, v = .slice ao ps.length cap ∧ ps.length ≤ cap ∧ ∀ j p, ps[j]? = some p → ∃ g o cv, ao = some ⟨g, o, none⟩ ∧
  w.cell? ⟨g, o + j * 4, none⟩ = some (.string (txt p.k)) ∧ w.cell? ⟨g, o + j * 4 + 1, none⟩ = some (.string (txt p.r)) ∧ w.cell? ⟨g, o + j * 4 + 2, none⟩ = some (.string (txt p.x)) ∧ w.cell? ⟨g, o + j * 4 + 3, none⟩ = some cv ∧ Tx w cv p.c
theorem Px.below {w w' : World} {v : Value} {ps : List PropA} (h : Px w v ps) (hb : Below w.heap.size w w') : Px w' v ps := by
  obtain ⟨ao, cap, e, hcp, hx⟩ := h
  refine ⟨ao, cap, e, hcp, fun j p hj => ?_⟩
  obtain ⟨g, o, cv, e2, h0, h1, h2, h3, h4⟩ := hx j p hj
  have c : ∀ {q : Addr} {u : Value}, w.cell? q = some u → w'.cell? q = some u := fun {q u} h => (hb.cell (World.block_lt_of_cell? w _ h)).trans h
  exact ⟨g, o, cv, e2, c h0, c h1, c h2, c h3, h4.below hb⟩
def lineOf (p : List UInt8 × List UInt8) : List UInt8 := p.1 ++ ([32, 61, 32] ++ (p.2 ++ [10]))
def textOf (kv : KV) : List UInt8 := kv.flatMap lineOf
theorem textOf_snoc (kv : KV) (p : List UInt8 × List UInt8) : textOf (kv ++ [p]) = textOf kv ++ lineOf p := by simp [textOf]
theorem textOf_take (kv : KV) (k : Nat) (p : List UInt8 × List UInt8) (h : kv[k]? = some p) : textOf (kv.take (k + 1)) = textOf (kv.take k) ++ lineOf p := by
  rw [List.take_add_one, h]; exact textOf_snoc _ _
theorem textOf_le (kv : KV) (k : Nat) : (textOf (kv.take k)).length ≤ (textOf kv).length := by
  have : textOf kv = textOf (kv.take k) ++ textOf (kv.drop k) := by
    unfold textOf
    rw [← List.flatMap_append, List.take_append_drop]
  rw [this, List.length_append]; omega
end Go.Proofs.YtdfhidnhkeapbaaDoor
