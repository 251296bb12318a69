/- Maps as lists of their entries; a range over a map, in whatever order. No condition of its own. -/
import Derived.Test.YtdfhidnhkeapbaaDoorGMap
import Derived.Maps.RangeWalk
namespace Go.Proofs.YtdfhidnhkeapbaaDoor
open Go.RowKit U8
open Go.Lib hiding intOf
open Go.ChangeMaps (setBlock)

abbrev Es := List (Value × Value)
def esOf (arr : Array MapEntry) : Es := arr.toList.map fun e => (e.key, e.val)
/-- Block m is a map with these entries, in the order in which they were laid. -/
def MB (m : Nat) (es : Es) (W : World) : Prop := ∃ arr clock, W.heap[m]? = some (.map arr clock) ∧ esOf arr = es ∧ (arr.toList.map (·.born)).Nodup ∧ ∀ x ∈ arr.toList, x.born < clock
theorem MB.of {m : Nat} {es : Es} {w w' : World} (h : MB m es w) (hb : w'.heap[m]? = w.heap[m]?) : MB m es w' := by
  obtain ⟨arr, c, h1, h2⟩ := h
  exact ⟨arr, c, hb.trans h1, h2⟩
theorem MB.lt {m : Nat} {es : Es} {w : World} (h : MB m es w) : m < w.heap.size := by
  obtain ⟨arr, c, h1, _⟩ := h
  exact (Array.getElem?_eq_some_iff.1 h1).1
theorem MB.below {m : Nat} {es : Es} {w w' : World} (h : MB m es w) (hb : Below w.heap.size w w') : MB m es w' := h.of (hb.block m h.lt)
/-- Block r is an iterator over map m, with these entries still to come. -/
def RG (r m : Nat) (es rem : Es) (W : World) : Prop := ∃ arr clock since seen c0, W.heap[m]? = some (.map arr clock) ∧ esOf arr = es ∧ (arr.toList.map (·.born)).Nodup ∧ (∀ x ∈ arr.toList, x.born < since) ∧ since ≤ c0 ∧ since ≤ clock ∧
  W.heap[r]? = some (.mapIter (some m) since seen c0) ∧ (leftOf arr seen).toList.map (fun e => (e.key, e.val)) = rem
theorem RG.of {r m : Nat} {es rem : Es} {w w' : World} (h : RG r m es rem w) (hm : w'.heap[m]? = w.heap[m]?) (hr : w'.heap[r]? = w.heap[r]?) : RG r m es rem w' := by
  obtain ⟨arr, c, s, sn, c0, h1, h2, h3, h4, h5, h6, h7, h8⟩ := h
  exact ⟨arr, c, s, sn, c0, hm.trans h1, h2, h3, h4, h5, h6, hr.trans h7, h8⟩
theorem RG.lt {r m : Nat} {es rem : Es} {w : World} (h : RG r m es rem w) : m < w.heap.size ∧ r < w.heap.size := by
  obtain ⟨arr, c, s, sn, c0, h1, h2, h3, h4, h5, h6, h7, h8⟩ := h
  exact ⟨(Array.getElem?_eq_some_iff.1 h1).1, (Array.getElem?_eq_some_iff.1 h7).1⟩
theorem RG.below {r m : Nat} {es rem : Es} {w w' : World} (h : RG r m es rem w) (hb : Below w.heap.size w w') : RG r m es rem w' := h.of (hb.block m h.lt.1) (hb.block r h.lt.2)
theorem RG.map {r m : Nat} {es rem : Es} {w : World} (h : RG r m es rem w) : MB m es w := by
  obtain ⟨arr, c, s, sn, c0, h1, h2, h3, h4, h5, h6, h7, h8⟩ := h
  exact ⟨arr, c, h1, h2, h3, fun x hx => Nat.lt_of_lt_of_le (h4 x hx) h6⟩
theorem RG.ne {r m : Nat} {es rem : Es} {w : World} (h : RG r m es rem w) : r ≠ m := by
  obtain ⟨arr, c, s, sn, c0, h1, h2, h3, h4, h5, h6, h7, h8⟩ := h
  intro e
  subst e
  rw [h1] at h7; cases h7
theorem split_nodup {α : Type} (f : α → Nat) (e : α) : ∀ (l : List α), (l.map f).Nodup → e ∈ l → ∃ l1 l2, l = l1 ++ e :: l2 ∧ l.filter (fun x => f x != f e) = l1 ++ l2
  | x :: l, hn, he => by
    rw [List.map_cons, List.nodup_cons] at hn
    by_cases hx : f x = f e
    · have hxe : x = e := by
        rcases List.mem_cons.1 he with h | h
        · exact h.symm
        · exact absurd (List.mem_map.2 ⟨e, h, hx.symm⟩) hn.1
      subst hxe
      refine ⟨[], l, rfl, ?_⟩
      rw [List.filter_cons, if_neg (by simp), List.nil_append, List.filter_eq_self]
      intro y hy
      simp only [bne_iff_ne, ne_eq]
      intro h
      exact hn.1 (List.mem_map.2 ⟨y, hy, h⟩)
    · have he' : e ∈ l := by
        rcases List.mem_cons.1 he with h | h
        · exact absurd (congrArg f h.symm) hx
        · exact h
      obtain ⟨l1, l2, h1, h2⟩ := split_nodup f e l hn.2 he'
      refine ⟨x :: l1, l2, by rw [h1]; rfl, ?_⟩
      rw [List.filter_cons, if_pos (by simpa using hx), h2]; rfl
theorem left_push (arr : Array MapEntry) (seen : Array Nat) (e : MapEntry) : (leftOf arr (seen.push e.born)).toList = (leftOf arr seen).toList.filter fun x => x.born != e.born := by
  unfold leftOf
  rw [Array.toList_filter, Array.toList_filter, List.filter_filter]
  congr 1
  funext x
  simp only [Array.contains_push, Bool.not_or]
  rw [Bool.and_comm]
  congr 1
theorem left_start (arr : Array MapEntry) : (leftOf arr #[]).toList = arr.toList := by
  unfold leftOf
  rw [Array.toList_filter, List.filter_eq_self]
  intro x _
  simp

section
variable {P : Program} {w : World} {ops : Array Oper} {rest : List Oper} {o : Oper} {a : Act} {Q : Exit → Act → World → Prop}
theorem wpList_range_mb (hg : o.guard = none) (m : Operand) (t : TypeId) (hop : o.op = Op.range t m) (k e : TypeId) (ht : P.underlying t = some (.map k e)) (b : Nat) (es : Es) (hm : a.eval m = .map (some b)) (h : MB b es w)
    (hK : ∀ w', RG w.heap.size b es es w' → Below w.heap.size w w' → w'.heap.size = w.heap.size + 1 → wpList P ops Q rest (a.put o.dst (.pointer (some ⟨w.heap.size, 0, none⟩))) w') :
    wpList P ops Q (o :: rest) a w := by
  refine wpList_plain hg fun K' hK' => ?_
  have hlt := h.lt
  obtain ⟨arr, clock, h1, h2, h3, h4⟩ := h
  have hrun := run_range_map (P := P) w t k e b arr clock ht h1
  unfold Oper.wp
  simp [execOp, hop, hm, hrun, Result.andThen]
  refine hK' _ _ (hK _ ⟨arr, clock, clock, #[], clock, (heap_alloc_old w _ hlt).trans h1, h2, h3, h4, Nat.le_refl _, Nat.le_refl _, heap_alloc_new _ _, ?_⟩ ((Below.refl _ _).alloc (Nat.le_refl _) _) (by simp))
  rw [left_start]; exact h2
theorem wpList_next_mb (hg : o.guard = none) (it : Operand) (hop : o.op = Op.next it false) (r m : Nat) (es rem : Es) (hit : a.eval it = .pointer (some ⟨r, 0, none⟩)) (h : RG r m es rem w) (B : Nat) (hB : B ≤ r)
    (hDone : rem = [] → wpList P ops Q rest (a.put o.dst (.tuple #[.bool false])) w)
    (hMore : ∀ (l1 l2 : Es) (key v : Value) (w' : World), rem = l1 ++ (key, v) :: l2 → (key, v) ∈ es → RG r m es (l1 ++ l2) w' → Below B w w' → (∀ k, k ≠ r → w'.heap[k]? = w.heap[k]?) → w'.heap.size = w.heap.size →
      (Instr.entry (.pointer (some ⟨r, 0, none⟩))).run P w' = .ok (.tuple #[key, v]) w' → wpList P ops Q rest (a.put o.dst (.tuple #[.bool true, key, v])) w') :
    wpList P ops Q (o :: rest) a w := by
  refine wpList_plain hg fun K' hK' => ?_
  have hne := h.ne
  have hlt := h.lt
  obtain ⟨arr, clock, since, seen, c0, h1, h2, h3, h4, h5, h6, h7, h8⟩ := h
  unfold Oper.wp
  rcases run_next_at (P := P) w o.type r m since c0 seen arr clock h7 h1 h4 h5 with ⟨h0, hrun⟩ | ⟨e, he, w1, hw1, hrun⟩
  · simp [execOp, hop, hit, hrun, Result.andThen]
    refine hK' _ _ (hDone ?_)
    rw [← h8, List.map_eq_nil_iff]
    exact List.eq_nil_of_length_eq_zero (by simpa using h0)
  · have hmem : e ∈ arr.toList := by
      unfold leftOf at he
      rw [Array.toList_filter] at he
      exact (List.mem_filter.1 he).1
    have hnl : ((leftOf arr seen).toList.map (·.born)).Nodup := by
      unfold leftOf
      rw [Array.toList_filter]
      exact List.Nodup.sublist (List.Sublist.map _ List.filter_sublist) h3
    obtain ⟨l1, l2, e1, e2⟩ := split_nodup (·.born) e _ hnl he
    have hh : w1.heap = w.heap := by rcases hw1 with rfl | rfl <;> rfl
    have hs1 : ∀ k, k ≠ r → (setBlock w1 r (.mapIter (some m) since (seen.push e.born) clock)).heap[k]? = w.heap[k]? := fun k hk => by
      simp [setBlock, hh, Ne.symm hk]
    have hs2 : (setBlock w1 r (.mapIter (some m) since (seen.push e.born) clock)).heap[r]? = some (.mapIter (some m) since (seen.push e.born) clock) := by
      simp [setBlock, hh, hlt.2]
    have hsz : (setBlock w1 r (.mapIter (some m) since (seen.push e.born) clock)).heap.size = w.heap.size := by
      simp [setBlock, hh]
    have hbl : Below B w (setBlock w1 r (.mapIter (some m) since (seen.push e.born) clock)) := by
      rcases hw1 with rfl | rfl
      · exact below_set (Below.refl B _) r _ hB
      · exact below_set (Below.refl B _).drew r _ hB
    have hen := run_entry_at (P := P) (setBlock w1 r (.mapIter (some m) since (seen.push e.born) clock)) r m since seen arr clock e hs2 ((hs1 m (Ne.symm hne)).trans h1) hmem h3
    simp [execOp, hop, hit, hrun, Result.andThen]
    refine hK' _ _ (hMore (l1.map fun e => (e.key, e.val)) (l2.map fun e => (e.key, e.val)) e.key e.val _ ?_ ?_ ?_ hbl hs1 hsz hen)
    · rw [← h8, e1, List.map_append, List.map_cons]
    · rw [← h2]; exact List.mem_map.2 ⟨e, hmem, rfl⟩
    · refine ⟨arr, clock, since, seen.push e.born, clock, (hs1 m (Ne.symm hne)).trans h1, h2, h3, h4, h6, h6, hs2, ?_⟩
      rw [left_push, e2, List.map_append]
end
end Go.Proofs.YtdfhidnhkeapbaaDoor
