/- Maps from texts to values of any kind: look-ups and stores; an append that tells where the row lies behind it. No condition of its own. -/
import Derived.Test.YtdfhidnhkeapbaaGreatDoorMb
import Derived.Test.YtdfhidnhkeapbaaGreatDoorWApp
import Derived.Test.YtdfhidnhkeapbaaGreatDoorLxPairs
namespace Go.Proofs.YtdfhidnhkeapbaaGreatDoor
open Go.RowKit U8
open Go.Lib hiding intOf

abbrev KW := List (List UInt8 × Value)
def kvW (kv : KW) : Es := kv.map fun p => (Value.string (txt p.1), p.2)
theorem kvW_keys {kv : KW} {arr : Array MapEntry} (he : esOf arr = kvW kv) : ∀ x ∈ arr.toList, MapKept.IsKey .string x.key := by
  intro x hx
  have h1 : (x.key, x.val) ∈ esOf arr := List.mem_map.2 ⟨x, hx, rfl⟩
  rw [he] at h1
  obtain ⟨p, _, hp⟩ := List.mem_map.1 h1
  have := congrArg Prod.fst hp
  simp only at this
  rw [← this]
  simp [MapKept.IsKey]
theorem find_w {kv : KW} {arr : Array MapEntry} (s : List UInt8) (he : esOf arr = kvW kv) :
    (Instr.findNow .string (.string (txt s)) arr.toList 0 = some none ∧ ∀ p ∈ kv, p.1 ≠ s) ∨
    ∃ j e p, Instr.findNow .string (.string (txt s)) arr.toList 0 = some (some (j, p.2)) ∧ arr.toList[j]? = some e ∧ kv[j]? = some p ∧ p.1 = s ∧ e.key = .string (txt s) := by
  rcases MapKept.findNow_spec (d := .string) (k := .string (txt s)) (by simp [MapKept.IsKey]) arr.toList 0 (kvW_keys he) with ⟨h1, h2⟩ | ⟨j, e, h1, h2, h3⟩
  · refine .inl ⟨h1, fun p hp e => ?_⟩
    have hmem : (Value.string (txt p.1), p.2) ∈ esOf arr := by rw [he]; exact List.mem_map.2 ⟨p, hp, rfl⟩
    obtain ⟨x, hx, hxe⟩ := List.mem_map.1 hmem
    simp only [Prod.mk.injEq] at hxe
    exact h2 x hx (by rw [hxe.1, e])
  · rw [Nat.zero_add] at h1
    have hj : (esOf arr)[j]? = some (e.key, e.val) := by unfold esOf; rw [List.getElem?_map, h2]; rfl
    rw [he] at hj
    unfold kvW at hj
    rw [List.getElem?_map] at hj
    cases hq : kv[j]? with
    | none => rw [hq] at hj; cases hj
    | some q =>
      rw [hq] at hj
      simp only [Option.map_some, Option.some.injEq, Prod.mk.injEq] at hj
      refine .inr ⟨j, e, q, by rw [h1, hj.2], h2, hq, txt_inj ?_, h3⟩
      have := hj.1.trans h3
      simpa using this
theorem nodup_at {kv : KW} (hn : (kv.map Prod.fst).Nodup) {p q : List UInt8 × Value} (hp : p ∈ kv) (hq : q ∈ kv) (e : p.1 = q.1) : p = q := by
  induction kv with
  | nil => cases hp
  | cons x kv ih =>
    rw [List.map_cons, List.nodup_cons] at hn
    rcases List.mem_cons.1 hp with h1 | h1
    · rcases List.mem_cons.1 hq with h2 | h2
      · rw [h1, h2]
      · exact absurd (List.mem_map.2 ⟨q, h2, by rw [← e, h1]⟩) hn.1
    · rcases List.mem_cons.1 hq with h2 | h2
      · exact absurd (List.mem_map.2 ⟨p, h1, by rw [e, h2]⟩) hn.1
      · exact ih hn.2 h1 h2
section
variable {P : Program} {w : World}
theorem lookw_hit (mty kt et : TypeId) (m : Nat) (kv : KW) (s : List UInt8) (v : Value) (hm : P.underlying mty = some (.map kt et)) (hk : P.underlying kt = some .string) (h : MB m (kvW kv) w) (hn : (kv.map Prod.fst).Nodup) (hs : (s, v) ∈ kv) :
    (Instr.lookup mty (.map (some m)) (.string (txt s)) true).run P w = .ok (.tuple #[v, .bool true]) w ∧ (Instr.lookup mty (.map (some m)) (.string (txt s)) false).run P w = .ok v w := by
  obtain ⟨es, c, hb, he, _⟩ := h
  have hc : ∀ e, (Instr.checkKey e 10000 kt (.string (txt s))).run P w = .ok () w := fun e => MapKept.run_checkKey (k := .string (txt s)) hk (by simp [MapKept.IsKey]) e 9999
  rcases find_w s he with ⟨_, h2⟩ | ⟨j, e, p, hf, _, h2, h3, _⟩
  · exact absurd rfl (h2 _ hs)
  · have : p = (s, v) := nodup_at hn (List.mem_of_getElem? h2) hs h3
    subst this
    constructor <;> simp [Instr.lookup, run_underlying hm, MapKept.run_getObj_map hb, hc, MapKept.run_findKey hk hf, Result.andThen]
theorem lookw_miss (mty kt et : TypeId) (m : Nat) (kv : KW) (s : List UInt8) (z : Value) (hm : P.underlying mty = some (.map kt et)) (hk : P.underlying kt = some .string) (hz : (zeroValue et).run P w = .ok z w) (h : MB m (kvW kv) w) (hs : ∀ p ∈ kv, p.1 ≠ s) :
    (Instr.lookup mty (.map (some m)) (.string (txt s)) true).run P w = .ok (.tuple #[z, .bool false]) w ∧ (Instr.lookup mty (.map (some m)) (.string (txt s)) false).run P w = .ok z w := by
  obtain ⟨es, c, hb, he, _⟩ := h
  have hc : ∀ e, (Instr.checkKey e 10000 kt (.string (txt s))).run P w = .ok () w := fun e => MapKept.run_checkKey (k := .string (txt s)) hk (by simp [MapKept.IsKey]) e 9999
  rcases find_w s he with ⟨hf, _⟩ | ⟨j, e, p, _, _, h2, h3, _⟩
  · constructor <;> simp [Instr.lookup, run_underlying hm, MapKept.run_getObj_map hb, hc, MapKept.run_findKey hk hf, Result.andThen, hz]
  · exact absurd h3 (hs p (List.mem_of_getElem? h2))
theorem setW : ∀ (kv : KW) (j : Nat) (q p : List UInt8 × Value), (kv.map Prod.fst).Nodup → kv[j]? = some q → q.1 = p.1 → kv.set j p = kv.map (fun q => if q.1 = p.1 then p else q)
  | [], j, q, p, _, h, _ => by simp at h
  | x :: kv, 0, q, p, hn, h, he => by
    simp at h
    subst h
    rw [List.map_cons, List.nodup_cons] at hn
    rw [List.set_cons_zero, List.map_cons, if_pos he]
    congr 1
    symm
    rw [List.map_congr_left (g := id)]
    · exact List.map_id kv
    · intro y hy
      rw [if_neg]
      · rfl
      · intro e
        exact hn.1 (List.mem_map.2 ⟨y, hy, by rw [e, he]⟩)
  | x :: kv, j + 1, q, p, hn, h, he => by
    rw [List.map_cons, List.nodup_cons] at hn
    have hm : kv[j]? = some q := by simpa using h
    have ih := setW kv j q p hn.2 hm he
    rw [List.set_cons_succ, List.map_cons, ih, if_neg]
    intro e
    exact hn.1 (List.mem_map.2 ⟨q, List.mem_of_getElem? hm, by rw [e, he]⟩)
theorem putw (mty kt et : TypeId) (m : Nat) (kv : KW) (p : List UInt8 × Value) (B : Nat) (hB : B ≤ m) (hm : P.underlying mty = some (.map kt et)) (hk : P.underlying kt = some .string) (h : MB m (kvW kv) w) (hn : (kv.map Prod.fst).Nodup) :
    ∃ w', (Instr.mapUpdate mty (.map (some m)) (.string (txt p.1)) p.2).run P w = .ok () w' ∧ MB m (kvW (updA kv p)) w' ∧ (∀ r, r ≠ m → w'.heap[r]? = w.heap[r]?) ∧ w'.heap.size = w.heap.size ∧ Below B w w' := by
  obtain ⟨es, c, hb, he, hbn, hbl⟩ := h
  have hc : (Instr.checkKey false 10000 kt (.string (txt p.1))).run P w = .ok () w := MapKept.run_checkKey (k := .string (txt p.1)) hk (by simp [MapKept.IsKey]) false 9999
  rcases find_w p.1 he with ⟨hf, hmiss⟩ | ⟨j, e, q, hf, h2, hq, hqp, h3⟩
  · have hu : updA kv p = kv ++ [p] := by
      unfold updA
      rw [if_neg]
      intro hin
      obtain ⟨q, hq, e⟩ := List.mem_map.1 hin
      exact hmiss q hq e
    have hS := MapKept.heap_set (o' := .map (es.push { key := .string (txt p.1), val := p.2, born := c }) (c + 1)) hb
    refine ⟨{ w with heap := w.heap.setIfInBounds m (.map (es.push { key := .string (txt p.1), val := p.2, born := c }) (c + 1)) }, ?_, ⟨_, _, hS.1, ?_, ?_, ?_⟩, hS.2, by simp, below_set (Below.refl B w) m _ hB⟩
    · simp [Instr.mapUpdate, run_underlying hm, MapKept.run_getObj_map hb, hc, MapKept.run_findKey hk hf, MapKept.run_setObj_map _ hb, Result.andThen]
    · rw [hu]
      unfold esOf at he ⊢
      rw [Array.toList_push, List.map_append, he]
      simp [kvW]
    · rw [Array.toList_push, List.map_append, List.nodup_append]
      refine ⟨hbn, by simp, ?_⟩
      intro a ha b hb
      simp at hb
      subst hb
      obtain ⟨x, hx, rfl⟩ := List.mem_map.1 ha
      have := hbl x hx
      omega
    · intro x hx
      rw [Array.toList_push, List.mem_append] at hx
      rcases hx with hx | hx
      · exact Nat.lt_succ_of_lt (hbl x hx)
      · simp at hx; subst hx; exact Nat.lt_succ_self c
  · have hin : p.1 ∈ kv.map Prod.fst := List.mem_map.2 ⟨q, List.mem_of_getElem? hq, hqp⟩
    have hu : updA kv p = kv.map (fun q => if q.1 = p.1 then p else q) := by unfold updA; rw [if_pos hin]
    have hjl : j < es.size := by have := (List.getElem?_eq_some_iff.1 h2).1; simpa using this
    have hek : (((es[j]?).map (·.key)).getD (.string (txt p.1))) = .string (txt p.1) := by
      rw [← Array.getElem?_toList, h2]; exact h3
    have hkt : (Instr.keyThatStays (.string (txt p.1)) (.string (txt p.1))).run P w = .ok (.string (txt p.1)) w := by
      have hsb : Instr.sameBits 10000 (.string (txt p.1)) (.string (txt p.1)) = true := MapKept.sameBits_self (d := .string) (k := .string (txt p.1)) (by simp [MapKept.IsKey]) 10000
      simp [Instr.keyThatStays, hsb]
    have hlist : (es.modify j fun e => { e with key := .string (txt p.1), val := p.2 }).toList = es.toList.set j { e with key := .string (txt p.1), val := p.2 } := by
      rw [Array.toList_modify]
      apply List.ext_getElem?
      intro i
      rw [List.getElem?_modify, List.getElem?_set]
      by_cases hij : j = i
      · subst hij
        have hej : es[j]? = some e := by rw [← Array.getElem?_toList]; exact h2
        obtain ⟨_, hej2⟩ := Array.getElem?_eq_some_iff.1 hej
        simp [hjl, hej2]
      · simp [hij]
    have hS := MapKept.heap_set (o' := .map (es.modify j fun e => { e with key := .string (txt p.1), val := p.2 }) c) hb
    refine ⟨{ w with heap := w.heap.setIfInBounds m (.map (es.modify j fun e => { e with key := .string (txt p.1), val := p.2 }) c) }, ?_, ⟨_, _, hS.1, ?_, ?_, ?_⟩, hS.2, by simp, below_set (Below.refl B w) m _ hB⟩
    · simp [Instr.mapUpdate, run_underlying hm, MapKept.run_getObj_map hb, hc, MapKept.run_findKey hk hf, hek, hkt, MapKept.run_setObj_map _ hb, Result.andThen]
    · unfold esOf at he ⊢
      rw [hlist, List.map_set, he, hu, ← setW kv j q p hn hq hqp]
      unfold kvW
      rw [List.map_set]
    · rw [hlist, List.map_set]
      have : (es.toList.map (·.born))[j]? = some e.born := by rw [List.getElem?_map, h2]; rfl
      rw [show (es.toList.map (·.born)).set j e.born = es.toList.map (·.born) from by
        apply List.ext_getElem?
        intro i
        rw [List.getElem?_set]
        by_cases hij : j = i
        · subst hij
          simp [this]
          simpa using hjl
        · simp [hij]]
      exact hbn
    · intro x hx
      rw [hlist] at hx
      rcases List.mem_or_eq_of_mem_set hx with hx | rfl
      · exact hbl x hx
      · exact hbl e (List.mem_of_getElem? h2)
end
theorem mb_new {m c : Nat} {w : World} (h : w.heap[m]? = some (.map #[] c)) : MB m (kvW []) w := ⟨#[], c, h, rfl, by simp, fun x hx => by simp at hx⟩
/-- ONE ELEMENT MORE, at a list of the call's own whose elements take one cell: what stands elsewhere stands, and where the list lies. -/
theorem wpList_app1m {P : Program} {wr : World} {ops : Array Oper} {rest : List Oper} {o : Oper} {a : Act} {Q : Exit → Act → World → Prop} (hgd : o.guard = none) (s x : Operand) (t e : TypeId)
    (ho : o.op = .call { callee := .builtin .append, args := #[s, x], argTypes := #[t, t] }) (i : TypeInfo) (z : Value) (bytes : Nat) (ht : P.underlying t = some (.slice e)) (hi : P.info? e = some i) (hz : i.zero = some z)
    (hsize : i.size = 1) (hby : i.bytes = bytes) (hzs : z.cells.size = 1) (base : Nat) (v : Value) (n : Nat) (xs : List Value) (hs : a.eval s = v) (hown : wr.ownsRow base e 1 v n xs) (u : Value) (hu : u.oneCell' = true)
    (g : Nat) (hx : a.eval x = .slice (some ⟨g, 0, none⟩) 1 1) (hg : g = wr.heap.size) (hn : (n + 1) * bytes ≤ 140737488355328) (hn2 : n + 1 ≤ 140737488355328) (hbase : base ≤ wr.heap.size)
    (h : ∀ ao cap w', w'.ownsRow base e 1 (.slice ao (n + 1) cap) (n + 1) (xs ++ [u]) → Below base wr w' → (∀ k, k < wr.heap.size → v.ownBlock ≠ some k → w'.heap[k]? = wr.heap[k]?) → (∀ k, k < wr.heap.size → v.ownBlock ≠ some k → (Value.slice ao (n + 1) cap).ownBlock ≠ some k) → wr.heap.size ≤ w'.heap.size → wpList P ops Q rest (a.put o.dst (.slice ao (n + 1) cap)) w') :
    wpList P ops Q (o :: rest) a (wr.alloc (.cells #[u] e)) := by
  subst hg
  refine wpList_append_mv hgd s x t ho base e i z bytes ht hi hz hsize hby hzs v n xs hs (hown.alloc _) ⟨wr.heap.size, 0, none⟩ 1 1 [u] hx rfl ?_ ?_ (by unfold maxLen; omega) hn (by simp; omega) ?_
  · intro j y hj
    match j, hj with
    | 0, hj => simp at hj; subst hj; simp [Addr.add]
  · intro y hy; simp at hy; subst hy; exact hu
  · intro v' w' hown' hgrow hmv
    obtain ⟨ao, cap, rfl⟩ := owns_slice hown'
    refine h ao cap w' hown' ?_ ?_ ?_ ?_
    · exact ((Below.refl base wr).alloc hbase _).grown hgrow (by simp; omega) (fun k hk => (hown.lt k hk).1)
    · intro k hk hne
      rw [hgrow.block k (by simp; omega) (fun e => hne e.symm), alloc_old wr _ k hk]
    · intro k hk hne e
      rcases hmv with hmv | ⟨x, hmv, hx⟩
      · exact hne (hmv ▸ e)
      · rw [hmv] at e
        simp at e
        simp at hx
        omega
    · have := ((Below.refl base wr).alloc hbase (.cells #[u] e)).grown hgrow (by simp; omega) (fun k hk => (hown.lt k hk).1)
      exact this.size
end Go.Proofs.YtdfhidnhkeapbaaGreatDoor
