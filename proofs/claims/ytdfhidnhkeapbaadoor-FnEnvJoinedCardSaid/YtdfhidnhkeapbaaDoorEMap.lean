/- laws.mapped: which pairs make a map. Condition: the number of pairs. -/
import Derived.Test.YtdfhidnhkeapbaaDoorEWr
import Derived.BigQuiet
import Derived.Deep.AppendLies
namespace Go.Proofs.YtdfhidnhkeapbaaDoor
open Go.RowKit U8
open Go.Lib hiding intOf

def pcells (p : List UInt8 × List UInt8) : List Value := [.string (txt p.1), .string (txt p.2)]
theorem pcells_len (ps : KVs) : (ps.flatMap pcells).length = ps.length * 2 := by
  induction ps with
  | nil => rfl
  | cons p ps ih => rw [List.flatMap_cons, List.length_append, ih, List.length_cons]; simp [pcells]; omega
theorem pcells_get : ∀ (ps : KVs) (j : Nat) (p : List UInt8 × List UInt8) (i : Nat), ps[j]? = some p → i < 2 → (ps.flatMap pcells)[j * 2 + i]? = (pcells p)[i]?
  | [], j, p, i, h, _ => by simp at h
  | q :: ps, 0, p, i, h, hi => by
    simp at h
    subst h
    rw [List.flatMap_cons, List.getElem?_append_left (by simp [pcells]; omega)]
    simp
  | q :: ps, j + 1, p, i, h, hi => by
    have ih := pcells_get ps j p i (by simpa using h) hi
    rw [List.flatMap_cons, List.getElem?_append_right (by simp [pcells]; omega), ← ih]
    congr 1
    simp [pcells]; omega
theorem qx_own {w : World} {base : Nat} {v : Value} {ps : KVs} (h : w.ownsRow base 36 2 v ps.length (ps.flatMap pcells)) : Qx w v ps := by
  rcases h.2 with ⟨rfl, h0⟩ | ⟨g, cap, cur, rfl, _, _, hcp, _⟩
  · have : ps = [] := List.eq_nil_of_length_eq_zero h0
    subst this
    exact ⟨none, 0, rfl, Nat.le_refl _, fun j p hj => by simp at hj⟩
  · refine ⟨_, cap, rfl, hcp, fun j p hj => ?_⟩
    have ad : ∀ n, (⟨g, 0, none⟩ : Addr).add n = ⟨g, 0 + n, none⟩ := fun n => by unfold Addr.add; split <;> simp_all
    have hc : ∀ i u, i < 2 → (pcells p)[i]? = some u → w.cell? ⟨g, 0 + (j * 2 + i), none⟩ = some u := fun i u hi hu => by
      rw [← ad]
      exact World.ownsRow.cells h rfl _ _ ((pcells_get ps j p i hj hi).trans hu)
    exact ⟨g, 0, rfl, hc 0 _ (by omega) rfl, by rw [Nat.add_assoc]; exact hc 1 _ (by omega) rfl⟩
/-- What an append is given: a slice whose cells are there, or none. -/
def RowAt (W : World) (vx : Value) (m size : Nat) (news : List Value) : Prop :=
  news.length = m * size ∧ (∀ u ∈ news, u.oneCell' = true) ∧ ((∃ ad c, vx = .slice (some ad) m c ∧ ∀ j u, news[j]? = some u → W.cell? (ad.add j) = some u) ∨ (m = 0 ∧ ∃ c, vx = .slice none 0 c))
theorem RowAt.below {W W' : World} {vx : Value} {m size : Nat} {news : List Value} (h : RowAt W vx m size news) (hb : Below W.heap.size W W') : RowAt W' vx m size news := by
  obtain ⟨h1, h2, ⟨ad, c, e, h3⟩ | h3⟩ := h
  · exact ⟨h1, h2, .inl ⟨ad, c, e, fun j u hj => (hb.cell (World.block_lt_of_cell? W _ (h3 j u hj))).trans (h3 j u hj)⟩⟩
  · exact ⟨h1, h2, .inr h3⟩
theorem step_append_free {P : Program} (w : World) {ops : Array Oper} {o : Oper} {a : Act} {K : Act → World → Prop} {Q : Exit → Act → World → Prop} {E : Prop} (hgd : o.guard = none) (s x : Operand) (t : TypeId)
    (ho : o.op = .call { callee := .builtin .append, args := #[s, x], argTypes := #[t, t] })
    (base : Nat) (e : TypeId) (i : TypeInfo) (z : Value) (size bytes : Nat) (ht : P.underlying t = some (.slice e)) (hi : P.info? e = some i) (hz : i.zero = some z)
    (hsize : i.size = size) (hby : i.bytes = bytes) (hzs : z.cells.size = size) (hsz : 0 < size)
    (v : Value) (n : Nat) (xs : List Value) (hs : a.eval s = v) (hown : w.ownsRow base e size v n xs)
    (vx : Value) (m : Nat) (news : List Value) (hx : a.eval x = vx) (hr : RowAt w vx m size news)
    (h63 : n + m ≤ 1000000000) (hbytes : (n + m) * bytes ≤ 140737488355328) (hbase : base ≤ w.heap.size)
    (h : ∀ ao cap w', w'.ownsRow base e size (.slice ao (n + m) cap) (n + m) (xs ++ news) → Below base w w' → (∀ k, k < w.heap.size → v.ownBlock ≠ some k → w'.heap[k]? = w.heap[k]?) → w.heap.size ≤ w'.heap.size → K (a.put o.dst (.slice ao (n + m) cap)) w') :
    if Region.wanted o (yielded ops a.tmps) = true then Oper.wp P o a w K Q else E := by
  have hw : Region.wanted o (yielded ops a.tmps) = true := by simp [Region.wanted, hgd]
  rw [if_pos hw]
  obtain ⟨hl, h1, ⟨ad, c, rfl, hnews⟩ | ⟨rfl, c, rfl⟩⟩ := hr
  · obtain ⟨v', w', hrun, h2, h3, _⟩ := run_append_own (P := P) w base t o.type e i z size bytes ht hi hz hsize hby hzs hsz v n xs hown ad m c news hl hnews h1 (by unfold maxLen; omega) hbytes hbase
    obtain ⟨ao, cap, rfl⟩ := owns_slice h2
    have hb : Below base w w' := (Below.refl base w).grown h3 (by omega) (fun k hk => (hown.lt k hk).1)
    unfold Oper.wp execOp
    simp only [ho, resolve, invoke, builtin, Sem.run_bind, Sem.run_pure, Result.andThen_ok, List.map_toArray, List.map_cons, List.map_nil, hs, hx, hrun]
    exact h ao cap w' h2 hb (fun k hk hne => h3.block k hk (fun e => hne e.symm)) h3.size
  · obtain ⟨ao, cap, rfl⟩ := owns_slice hown
    have hcap : n ≤ cap := by
      rcases hown.2 with ⟨e1, h0⟩ | ⟨g, cap2, cur, e1, _, _, h3, _⟩
      · omega
      · cases e1; exact h3
    have hne : news = [] := List.eq_nil_of_length_eq_zero (by omega)
    subst hne
    have hrun : (Builtin.append_ #[t, t] o.type #[.slice ao n cap, .slice none 0 c]).run P w = .ok (.slice ao n cap) w := by
      cases ao with
      | none => simp [Builtin.append_, run_underlying ht, sizeOf, typeInfo, hi, Builtin.lenOf, Builtin.firstCells, hcap]
      | some g => simp [Builtin.append_, run_underlying ht, sizeOf, typeInfo, hi, Builtin.lenOf, Builtin.firstCells, hcap, storeCells]
    unfold Oper.wp execOp
    simp only [ho, resolve, invoke, builtin, Sem.run_bind, Sem.run_pure, Result.andThen_ok, List.map_toArray, List.map_cons, List.map_nil, hs, hx, hrun]
    exact h ao cap w (by rw [List.append_nil]; exact hown) (Below.refl _ _) (fun _ _ _ => rfl) (Nat.le_refl _)
end Go.Proofs.YtdfhidnhkeapbaaDoor
