/- impl.WriteEnv: a map out of pairs, and its text. Conditions: the sizes, and the tables that are laid. -/
import Derived.Test.YtdfhidnhkeapbaaDoorEMarW
namespace Go.Proofs.YtdfhidnhkeapbaaDoor
open Go.RowKit U8
open Go.Lib hiding intOf

/-- A slice of pairs. -/
def Qx (w : World) (v : Value) (ps : KVs) : Prop := ∃ ao cap, v = .slice ao ps.length cap ∧ ps.length ≤ cap ∧ ∀ j p, ps[j]? = some p → ∃ g o, ao = some ⟨g, o, none⟩ ∧
  w.cell? ⟨g, o + j * 2, none⟩ = some (.string (txt p.1)) ∧ w.cell? ⟨g, o + j * 2 + 1, none⟩ = some (.string (txt p.2))
theorem Qx.below {w w' : World} {v : Value} {ps : KVs} (h : Qx w v ps) (hb : Below w.heap.size w w') : Qx w' v ps := by
  obtain ⟨ao, cap, e, hcp, hx⟩ := h
  refine ⟨ao, cap, e, hcp, fun j p hj => ?_⟩
  obtain ⟨g, o, e2, h0, h1⟩ := hx j p hj
  have c : ∀ {q : Addr} {u : Value}, w.cell? q = some u → w'.cell? q = some u := fun {q u} h => (hb.cell (World.block_lt_of_cell? w _ h)).trans h
  exact ⟨g, o, e2, c h0, c h1⟩
theorem set_upd : ∀ (kv : KVs) (j : Nat) (q p : List UInt8 × List UInt8), (kv.map Prod.fst).Nodup → kv[j]? = some q → q.1 = p.1 → kv.set j p = kv.map (fun q => if q.1 = p.1 then p else q)
  | [], j, q, p, _, h, _ => by simp at h
  | x :: kv, 0, q, p, hn, h, he => by
    simp at h
    subst h
    rw [List.map_cons, List.nodup_cons] at hn
    rw [List.set_cons_zero, List.map_cons, if_pos he]
    congr 1
    symm
    rw [List.map_congr_left (g := id)]
    · exact List.map_id kv
    · intro y hy
      rw [if_neg]
      · rfl
      · intro e
        exact hn.1 (List.mem_map.2 ⟨y, hy, by rw [e, he]⟩)
  | x :: kv, j + 1, q, p, hn, h, he => by
    rw [List.map_cons, List.nodup_cons] at hn
    have hm : kv[j]? = some q := by simpa using h
    have ih := set_upd kv j q p hn.2 hm he
    rw [List.set_cons_succ, List.map_cons, ih, if_neg]
    intro e
    exact hn.1 (List.mem_map.2 ⟨q, List.mem_of_getElem? hm, by rw [e, he]⟩)
theorem put_mb {P : Program} {w : World} (mty kt et : TypeId) (m : Nat) (kv : KVs) (p : List UInt8 × List UInt8) (B : Nat) (hB : B ≤ m) (hm : P.underlying mty = some (.map kt et)) (hk : P.underlying kt = some .string) (h : MB m (kvV kv) w) (hn : (kv.map Prod.fst).Nodup) :
    ∃ w', (Instr.mapUpdate mty (.map (some m)) (.string (txt p.1)) (.string (txt p.2))).run P w = .ok () w' ∧ MB m (kvV (upd kv p)) w' ∧ (∀ r, r ≠ m → w'.heap[r]? = w.heap[r]?) ∧ w'.heap.size = w.heap.size ∧ Below B w w' := by
  obtain ⟨es, c, hb, he, hbn, hbl⟩ := h
  have he2 : es.toList.map (fun e => (e.key, e.val)) = kv.map fun p => (Value.string (txt p.1), Value.string (txt p.2)) := he
  have hc : (Instr.checkKey false 10000 kt (.string (txt p.1))).run P w = .ok () w := MapKept.run_checkKey (k := .string (txt p.1)) hk (by simp [MapKept.IsKey]) false 9999
  by_cases hin : p.1 ∈ kv.map Prod.fst
  · have hu : upd kv p = kv.map (fun q => if q.1 = p.1 then p else q) := by unfold upd; rw [if_pos hin]
    rcases MapKept.findNow_spec (d := .string) (k := .string (txt p.1)) (by simp [MapKept.IsKey]) es.toList 0 (ism_keys he2) with ⟨h1, h2⟩ | ⟨j, e, h1, h2, h3⟩
    · exfalso
      obtain ⟨q, hq, e⟩ := List.mem_map.1 hin
      have hmem : (Value.string (txt q.1), Value.string (txt q.2)) ∈ es.toList.map (fun e => (e.key, e.val)) := by rw [he2]; exact List.mem_map.2 ⟨q, hq, rfl⟩
      obtain ⟨x, hx, hxe⟩ := List.mem_map.1 hmem
      have := h2 x hx
      simp only [Prod.mk.injEq] at hxe
      exact this (by rw [hxe.1, e])
    · rw [Nat.zero_add] at h1
      have hkv : ∃ q, kv[j]? = some q ∧ q.1 = p.1 := by
        have hj : (es.toList.map (fun e => (e.key, e.val)))[j]? = some (e.key, e.val) := by rw [List.getElem?_map, h2]; rfl
        rw [he2, List.getElem?_map] at hj
        cases hq : kv[j]? with
        | none => rw [hq] at hj; cases hj
        | some q =>
          rw [hq] at hj
          simp only [Option.map_some, Option.some.injEq, Prod.mk.injEq] at hj
          refine ⟨q, rfl, txt_inj ?_⟩
          have := hj.1.trans h3
          simpa using this
      obtain ⟨q, hq, hqp⟩ := hkv
      have hjl : j < es.size := by have := (List.getElem?_eq_some_iff.1 h2).1; simpa using this
      have hek : (((es[j]?).map (·.key)).getD (.string (txt p.1))) = .string (txt p.1) := by
        rw [← Array.getElem?_toList, h2]; exact h3
      have hkt : (Instr.keyThatStays (.string (txt p.1)) (.string (txt p.1))).run P w = .ok (.string (txt p.1)) w := by
        have hsb : Instr.sameBits 10000 (.string (txt p.1)) (.string (txt p.1)) = true := MapKept.sameBits_self (d := .string) (k := .string (txt p.1)) (by simp [MapKept.IsKey]) 10000
        simp [Instr.keyThatStays, hsb]
      have hlist : (es.modify j fun e => { e with key := .string (txt p.1), val := .string (txt p.2) }).toList = es.toList.set j { e with key := .string (txt p.1), val := .string (txt p.2) } := by
        rw [Array.toList_modify]
        apply List.ext_getElem?
        intro i
        rw [List.getElem?_modify, List.getElem?_set]
        by_cases hij : j = i
        · subst hij
          have hej : es[j]? = some e := by rw [← Array.getElem?_toList]; exact h2
          obtain ⟨_, hej2⟩ := Array.getElem?_eq_some_iff.1 hej
          simp [hjl, hej2]
        · simp [hij]
      have hS := MapKept.heap_set (o' := .map (es.modify j fun e => { e with key := .string (txt p.1), val := .string (txt p.2) }) c) hb
      refine ⟨{ w with heap := w.heap.setIfInBounds m (.map (es.modify j fun e => { e with key := .string (txt p.1), val := .string (txt p.2) }) c) }, ?_, ⟨_, _, hS.1, ?_, ?_, ?_⟩, hS.2, by simp, below_set (Below.refl B w) m _ hB⟩
      · simp [Instr.mapUpdate, run_underlying hm, MapKept.run_getObj_map hb, hc, MapKept.run_findKey hk h1, hek, hkt, MapKept.run_setObj_map _ hb, Result.andThen]
      · unfold esOf
        rw [hlist, List.map_set, he2, hu, ← set_upd kv j q p hn hq hqp]
        unfold kvV
        rw [List.map_set]
      · rw [hlist, List.map_set]
        have : (es.toList.map (·.born))[j]? = some e.born := by rw [List.getElem?_map, h2]; rfl
        rw [show (es.toList.map (·.born)).set j e.born = es.toList.map (·.born) from by
          apply List.ext_getElem?
          intro i
          rw [List.getElem?_set]
          by_cases hij : j = i
          · subst hij
            simp [this]
            simpa using hjl
          · simp [hij]]
        exact hbn
      · intro x hx
        rw [hlist] at hx
        rcases List.mem_or_eq_of_mem_set hx with hx | rfl
        · exact hbl x hx
        · exact hbl e (List.mem_of_getElem? h2)
  · have hu : upd kv p = kv ++ [p] := by unfold upd; rw [if_neg hin]
    have hf := find_miss p.1 he2 (fun q hq e => hin (List.mem_map.2 ⟨q, hq, e⟩))
    have hS := MapKept.heap_set (o' := .map (es.push { key := .string (txt p.1), val := .string (txt p.2), born := c }) (c + 1)) hb
    refine ⟨{ w with heap := w.heap.setIfInBounds m (.map (es.push { key := .string (txt p.1), val := .string (txt p.2), born := c }) (c + 1)) }, ?_, ⟨_, _, hS.1, ?_, ?_, ?_⟩, hS.2, by simp, below_set (Below.refl B w) m _ hB⟩
    · simp [Instr.mapUpdate, run_underlying hm, MapKept.run_getObj_map hb, hc, MapKept.run_findKey hk hf, MapKept.run_setObj_map _ hb, Result.andThen]
    · unfold esOf
      rw [Array.toList_push, List.map_append, he2, hu]
      simp [kvV]
    · rw [Array.toList_push, List.map_append, List.nodup_append]
      refine ⟨hbn, by simp, ?_⟩
      intro a ha b hb
      simp at hb
      subst hb
      obtain ⟨x, hx, rfl⟩ := List.mem_map.1 ha
      have := hbl x hx
      omega
    · intro x hx
      rw [Array.toList_push, List.mem_append] at hx
      rcases hx with hx | hx
      · have := hbl x hx; omega
      · simp at hx
        subst hx
        simp
end Go.Proofs.YtdfhidnhkeapbaaDoor
