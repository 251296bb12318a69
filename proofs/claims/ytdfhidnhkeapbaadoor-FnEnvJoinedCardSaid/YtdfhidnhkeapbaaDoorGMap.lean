/- A map of texts by texts, of any number of entries: look-ups, and stores of a key that is new. -/
import Derived.Test.YtdfhidnhkeapbaaDoorTMap
import Derived.Test.YtdfhidnhkeapbaaDoorGTx
namespace Go.Proofs.YtdfhidnhkeapbaaDoor
open Go.RowKit U8
open Go.Lib hiding intOf

/-- Block m is a map that holds these pairs, in the order in which they came; no key twice. -/
def IsM (m : Nat) (kv : List (List UInt8 × List UInt8)) (W : World) : Prop :=
  (kv.map Prod.fst).Nodup ∧ ∃ es clock, W.heap[m]? = some (.map es clock) ∧ es.toList.map (fun e => (e.key, e.val)) = kv.map fun p => (Value.string (txt p.1), Value.string (txt p.2))
theorem IsM.below {m : Nat} {kv : List (List UInt8 × List UInt8)} {w w' : World} (h : IsM m kv w) (hb : Below w.heap.size w w') : IsM m kv w' := by
  obtain ⟨h1, es, c, hm, he⟩ := h
  exact ⟨h1, es, c, (hb.block m (Array.getElem?_eq_some_iff.1 hm).1).trans hm, he⟩
theorem IsM.lt {m : Nat} {kv : List (List UInt8 × List UInt8)} {w : World} (h : IsM m kv w) : m < w.heap.size := by
  obtain ⟨_, es, c, hm, _⟩ := h
  exact (Array.getElem?_eq_some_iff.1 hm).1
theorem IsM.of {m : Nat} {kv : List (List UInt8 × List UInt8)} {w w' : World} (h : IsM m kv w) (hb : w'.heap[m]? = w.heap[m]?) : IsM m kv w' := by
  obtain ⟨h1, es, c, hm, he⟩ := h
  exact ⟨h1, es, c, hb.trans hm, he⟩
theorem txt_inj {a b : List UInt8} (h : txt a = txt b) : a = b := by
  have := congrArg (fun s : ByteArray => s.data.toList) h
  simpa [txt_list] using this
theorem ism_keys {kv : List (List UInt8 × List UInt8)} {es : Array MapEntry} (he : es.toList.map (fun e => (e.key, e.val)) = kv.map fun p => (Value.string (txt p.1), Value.string (txt p.2))) : ∀ x ∈ es.toList, MapKept.IsKey .string x.key := by
  intro x hx
  have h1 : (x.key, x.val) ∈ es.toList.map (fun e => (e.key, e.val)) := List.mem_map.2 ⟨x, hx, rfl⟩
  rw [he] at h1
  obtain ⟨p, _, hp⟩ := List.mem_map.1 h1
  have := congrArg Prod.fst hp
  simp only at this
  rw [← this]
  simp [MapKept.IsKey]
theorem find_miss {kv : List (List UInt8 × List UInt8)} {es : Array MapEntry} (s : List UInt8) (he : es.toList.map (fun e => (e.key, e.val)) = kv.map fun p => (Value.string (txt p.1), Value.string (txt p.2))) (h : ∀ p ∈ kv, p.1 ≠ s) :
    Instr.findNow .string (.string (txt s)) es.toList 0 = some none := by
  rcases MapKept.findNow_spec (d := .string) (k := .string (txt s)) (by simp [MapKept.IsKey]) es.toList 0 (ism_keys he) with h1 | ⟨j, e, h1, h2, h3⟩
  · exact h1.1
  · exfalso
    have hm : (e.key, e.val) ∈ es.toList.map (fun e => (e.key, e.val)) := List.mem_map.2 ⟨e, List.mem_of_getElem? h2, rfl⟩
    rw [he] at hm
    obtain ⟨p, hp, hq⟩ := List.mem_map.1 hm
    have hk := congrArg Prod.fst hq
    simp only at hk
    rw [h3] at hk
    exact h p hp (txt_inj (by simpa using hk))
theorem find_hit {kv : List (List UInt8 × List UInt8)} {es : Array MapEntry} (s v : List UInt8) (he : es.toList.map (fun e => (e.key, e.val)) = kv.map fun p => (Value.string (txt p.1), Value.string (txt p.2))) (hn : (kv.map Prod.fst).Nodup) (h : (s, v) ∈ kv) :
    ∃ j, Instr.findNow .string (.string (txt s)) es.toList 0 = some (some (j, .string (txt v))) := by
  rcases MapKept.findNow_spec (d := .string) (k := .string (txt s)) (by simp [MapKept.IsKey]) es.toList 0 (ism_keys he) with h1 | ⟨j, e, h1, h2, h3⟩
  · exfalso
    have hm : (Value.string (txt s), Value.string (txt v)) ∈ kv.map fun p => (Value.string (txt p.1), Value.string (txt p.2)) := List.mem_map.2 ⟨(s, v), h, rfl⟩
    rw [← he] at hm
    obtain ⟨x, hx, hq⟩ := List.mem_map.1 hm
    exact h1.2 x hx (congrArg Prod.fst hq)
  · refine ⟨0 + j, ?_⟩
    have hm : (e.key, e.val) ∈ es.toList.map (fun e => (e.key, e.val)) := List.mem_map.2 ⟨e, List.mem_of_getElem? h2, rfl⟩
    rw [he] at hm
    obtain ⟨p, hp, hq⟩ := List.mem_map.1 hm
    have hk := congrArg Prod.fst hq
    have hv := congrArg Prod.snd hq
    simp only at hk hv
    rw [h3] at hk
    have hps : p.1 = s := txt_inj (by simpa using hk)
    have hpv : p.2 = v := by
      have : ∀ l : List (List UInt8 × List UInt8), (l.map Prod.fst).Nodup → (s, v) ∈ l → p ∈ l → p.2 = v := by
        intro l
        induction l with
        | nil => intro _ h; cases h
        | cons q l ih =>
          intro hn h1 h2
          rw [List.map_cons, List.nodup_cons] at hn
          rcases List.mem_cons.1 h1 with h1 | h1
          · rcases List.mem_cons.1 h2 with h2 | h2
            · rw [h2, ← h1]
            · exact absurd (List.mem_map.2 ⟨p, h2, by rw [hps, ← h1]⟩) hn.1
          · rcases List.mem_cons.1 h2 with h2 | h2
            · exact absurd (List.mem_map.2 ⟨(s, v), h1, by rw [← h2, hps]⟩) hn.1
            · exact ih hn.2 h1 h2
      exact this kv hn h hp
    rw [h1, ← hv, hpv]
theorem look_miss {P : Program} {w : World} (mty kt et : TypeId) (m : Nat) (kv : List (List UInt8 × List UInt8)) (s : List UInt8) (z : Value) (hm : P.underlying mty = some (.map kt et)) (hk : P.underlying kt = some .string) (hz : (zeroValue et).run P w = .ok z w) (h : IsM m kv w) (hs : ∀ p ∈ kv, p.1 ≠ s) :
    (Instr.lookup mty (.map (some m)) (.string (txt s)) true).run P w = .ok (.tuple #[z, .bool false]) w := by
  obtain ⟨_, es, c, hb, he⟩ := h
  have hf := find_miss s he hs
  have hc : ∀ e, (Instr.checkKey e 10000 kt (.string (txt s))).run P w = .ok () w := fun e => MapKept.run_checkKey (k := .string (txt s)) hk (by simp [MapKept.IsKey]) e 9999
  simp [Instr.lookup, run_underlying hm, MapKept.run_getObj_map hb, hc, MapKept.run_findKey hk hf, Result.andThen, hz]
theorem look_hit {P : Program} {w : World} (mty kt et : TypeId) (m : Nat) (kv : List (List UInt8 × List UInt8)) (s v : List UInt8) (hm : P.underlying mty = some (.map kt et)) (hk : P.underlying kt = some .string) (h : IsM m kv w) (hs : (s, v) ∈ kv) :
    (Instr.lookup mty (.map (some m)) (.string (txt s)) true).run P w = .ok (.tuple #[.string (txt v), .bool true]) w := by
  obtain ⟨hn, es, c, hb, he⟩ := h
  obtain ⟨j, hf⟩ := find_hit s v he hn hs
  have hc : ∀ e, (Instr.checkKey e 10000 kt (.string (txt s))).run P w = .ok () w := fun e => MapKept.run_checkKey (k := .string (txt s)) hk (by simp [MapKept.IsKey]) e 9999
  simp [Instr.lookup, run_underlying hm, MapKept.run_getObj_map hb, hc, MapKept.run_findKey hk hf, Result.andThen]
theorem look_plain {P : Program} {w : World} (mty kt et : TypeId) (m : Nat) (kv : List (List UInt8 × List UInt8)) (s v : List UInt8) (hm : P.underlying mty = some (.map kt et)) (hk : P.underlying kt = some .string) (h : IsM m kv w) (hs : (s, v) ∈ kv) :
    (Instr.lookup mty (.map (some m)) (.string (txt s)) false).run P w = .ok (.string (txt v)) w := by
  obtain ⟨hn, es, c, hb, he⟩ := h
  obtain ⟨j, hf⟩ := find_hit s v he hn hs
  have hc : ∀ e, (Instr.checkKey e 10000 kt (.string (txt s))).run P w = .ok () w := fun e => MapKept.run_checkKey (k := .string (txt s)) hk (by simp [MapKept.IsKey]) e 9999
  simp [Instr.lookup, run_underlying hm, MapKept.run_getObj_map hb, hc, MapKept.run_findKey hk hf, Result.andThen]
/-- A store of a key that is new: the map's own block alone changes. -/
theorem put_new {P : Program} {w : World} (mty kt et : TypeId) (m : Nat) (kv : List (List UInt8 × List UInt8)) (s v : List UInt8) (B : Nat) (hB : B ≤ m) (hm : P.underlying mty = some (.map kt et)) (hk : P.underlying kt = some .string) (h : IsM m kv w) (hs : ∀ p ∈ kv, p.1 ≠ s) :
    ∃ w', (Instr.mapUpdate mty (.map (some m)) (.string (txt s)) (.string (txt v))).run P w = .ok () w' ∧ IsM m (kv ++ [(s, v)]) w' ∧ (∀ r, r ≠ m → w'.heap[r]? = w.heap[r]?) ∧ w'.heap.size = w.heap.size ∧ Below B w w' := by
  obtain ⟨hn, es, c, hb, he⟩ := h
  have hf := find_miss s he hs
  have hc : (Instr.checkKey false 10000 kt (.string (txt s))).run P w = .ok () w := MapKept.run_checkKey (k := .string (txt s)) hk (by simp [MapKept.IsKey]) false 9999
  have hS := MapKept.heap_set (o' := .map (es.push { key := .string (txt s), val := .string (txt v), born := c }) (c + 1)) hb
  refine ⟨{ w with heap := w.heap.setIfInBounds m (.map (es.push { key := .string (txt s), val := .string (txt v), born := c }) (c + 1)) }, ?_, ⟨?_, _, _, hS.1, ?_⟩, hS.2, by simp, below_set (Below.refl B w) m _ hB⟩
  · simp [Instr.mapUpdate, run_underlying hm, MapKept.run_getObj_map hb, hc, MapKept.run_findKey hk hf, MapKept.run_setObj_map _ hb, Result.andThen]
  · rw [List.map_append, List.nodup_append]
    refine ⟨hn, by simp, ?_⟩
    intro a ha b hb2
    simp at hb2
    subst hb2
    obtain ⟨p, hp, rfl⟩ := List.mem_map.1 ha
    exact hs p hp
  · rw [Array.toList_push, List.map_append, he, List.map_append]; rfl
theorem ism_new {m : Nat} {w : World} {c : Nat} (h : w.heap[m]? = some (.map #[] c)) : IsM m [] w := ⟨List.nodup_nil, #[], c, h, rfl⟩

end Go.Proofs.YtdfhidnhkeapbaaDoor
