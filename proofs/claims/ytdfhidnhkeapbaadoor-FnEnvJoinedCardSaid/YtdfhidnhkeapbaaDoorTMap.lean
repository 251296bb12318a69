/- A map of no entry, of one entry: what the look-up and the store do. -/
import Derived.WideMake
import Derived.MapKept
import Derived.WalkKit
import Derived.Lib.LaidU8
import Derived.LaidLaws
namespace Go.Proofs.YtdfhidnhkeapbaaDoor
open Go.RowKit Go.Lib

theorem run_lookup_empty {P : Program} {w : World} (mty kt et : TypeId) (r clock : Nat) (s : ByteArray) (z : Value) (hm : P.underlying mty = some (.map kt et)) (hk : P.underlying kt = some .string) (hz : (zeroValue et).run P w = .ok z w) (hb : w.heap[r]? = some (.map #[] clock)) :
    (Instr.lookup mty (.map (some r)) (.string s) true).run P w = .ok (.tuple #[z, .bool false]) w := by
  have hf : Instr.findNow .string (.string s) ([] : List MapEntry) 0 = some none := rfl
  have hc : ∀ e, (Instr.checkKey e 10000 kt (.string s)).run P w = .ok () w := fun e => MapKept.run_checkKey (k := .string s) hk (by simp [MapKept.IsKey]) e 9999
  simp [Instr.lookup, run_underlying hm, MapKept.run_getObj_map hb, hc, MapKept.run_findKey hk hf, Result.andThen, hz]
theorem run_lookup_one {P : Program} {w : World} (mty kt et : TypeId) (r clock born : Nat) (s : ByteArray) (v : Value) (hm : P.underlying mty = some (.map kt et)) (hk : P.underlying kt = some .string) (hb : w.heap[r]? = some (.map #[{ key := .string s, val := v, born := born }] clock)) :
    (Instr.lookup mty (.map (some r)) (.string s) true).run P w = .ok (.tuple #[v, .bool true]) w := by
  have hf : Instr.findNow .string (.string s) [({ key := .string s, val := v, born := born } : MapEntry)] 0 = some (some (0, v)) := by
    rcases MapKept.findNow_spec (d := .string) (k := .string s) (by simp [MapKept.IsKey]) [({ key := .string s, val := v, born := born } : MapEntry)] 0 (by simp [MapKept.IsKey]) with h | ⟨j, e, h1, h2, h3⟩
    · exact absurd rfl (h.2 _ (List.mem_singleton.2 rfl))
    · match j, h2 with
      | 0, h2 =>
        have := Option.some.inj h2
        subst this
        exact h1
  have hc : ∀ e, (Instr.checkKey e 10000 kt (.string s)).run P w = .ok () w := fun e => MapKept.run_checkKey (k := .string s) hk (by simp [MapKept.IsKey]) e 9999
  simp [Instr.lookup, run_underlying hm, MapKept.run_getObj_map hb, hc, MapKept.run_findKey hk hf, Result.andThen]
/-- A store into a block that is the call's own. -/
theorem below_set {n : Nat} {w w' : World} (hb : Below n w w') (r : Nat) (o : Obj) (hr : n ≤ r) : Below n w { w' with heap := w'.heap.setIfInBounds r o } :=
  ⟨hb.os, hb.tape, hb.output, by simpa using hb.size, fun k hk => by
    rw [← hb.block k hk]
    exact Array.getElem?_setIfInBounds_ne (by omega)⟩
/-- What a laid sentinel holds. -/
theorem sentinel_of {P : Program} {W : World} {n nm : String} {D : DataW Unit} (g : Nat) (t : TypeId) (ms : Array (String × TypeId)) (hg : P.globalNamed n = some g) (ht : (P.globals[g]?).map (·.type) = some t) (hi : P.underlying t = some (.interface ms))
    (h : VarReads P W n (.iface nm D)) : ∃ tp p, W.cell? ⟨g, 0, none⟩ = some (.iface tp p) := by
  obtain ⟨g1, t1, cs, fuel, q, h1, h2, h3, h4⟩ := h
  obtain rfl := Option.some.inj (hg.symm.trans h1)
  obtain rfl := Option.some.inj (ht.symm.trans h2)
  obtain ⟨f2, u, v, e, _, _⟩ := iface_of_trod hi h4
  refine ⟨u, v, ?_⟩
  rw [World.var?_cell hg h3 0]
  rw [← Array.getElem?_toList, e]
  rfl

end Go.Proofs.YtdfhidnhkeapbaaDoor
