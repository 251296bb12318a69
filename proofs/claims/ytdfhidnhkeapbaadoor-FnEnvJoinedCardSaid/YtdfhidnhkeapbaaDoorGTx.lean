/- Slices of texts at the seat of properties; a slice of texts among the arguments. -/
import Derived.Test.YtdfhidnhkeapbaaDoorQBase
import Derived.SliceStrings
import Derived.Carry
import Derived.WideShapes
namespace Go.Proofs.YtdfhidnhkeapbaaDoor
open Go.RowKit U8
open Go.Lib hiding intOf

theorem Tryd.infoStr : (Tryd.prog.info? 9).map (fun i => (i.zero, i.size, i.bytes)) = some (some (.string ⟨#[]⟩), 1, 16) := by kernel_rfl
/-- ONE ELEMENT MORE, at a list of the call's own whose elements take one cell: what stands elsewhere stands. -/
theorem wpList_app1 {P : Program} {wr : World} {ops : Array Oper} {rest : List Oper} {o : Oper} {a : Act} {Q : Exit → Act → World → Prop} (hgd : o.guard = none) (s x : Operand) (t e : TypeId)
    (ho : o.op = .call { callee := .builtin .append, args := #[s, x], argTypes := #[t, t] }) (i : TypeInfo) (z : Value) (bytes : Nat) (ht : P.underlying t = some (.slice e)) (hi : P.info? e = some i) (hz : i.zero = some z)
    (hsize : i.size = 1) (hby : i.bytes = bytes) (hzs : z.cells.size = 1) (base : Nat) (v : Value) (n : Nat) (xs : List Value) (hs : a.eval s = v) (hown : wr.ownsRow base e 1 v n xs) (u : Value) (hu : u.oneCell' = true)
    (hx : a.eval x = .slice (some ⟨wr.heap.size, 0, none⟩) 1 1) (hn : (n + 1) * bytes ≤ 140737488355328) (hn2 : n + 1 ≤ 140737488355328) (hbase : base ≤ wr.heap.size)
    (h : ∀ ao cap w', w'.ownsRow base e 1 (.slice ao (n + 1) cap) (n + 1) (xs ++ [u]) → Below base wr w' → (∀ k, k < wr.heap.size → v.ownBlock ≠ some k → w'.heap[k]? = wr.heap[k]?) → wpList P ops Q rest (a.put o.dst (.slice ao (n + 1) cap)) w') :
    wpList P ops Q (o :: rest) a (wr.alloc (.cells #[u] e)) := by
  refine wpList_append_own _ hgd s x t ho base e i z 1 bytes ht hi hz hsize hby hzs (by decide) v n xs hs (hown.alloc _) ⟨wr.heap.size, 0, none⟩ 1 1 [u] hx rfl ?_ ?_ (by unfold maxLen; omega) hn (by simp; omega) ?_
  · intro j y hj
    match j, hj with
    | 0, hj => simp at hj; subst hj; simp [Addr.add]
  · intro y hy; simp at hy; subst hy; exact hu
  · intro v' w' hown' hgrow _
    obtain ⟨ao, cap, rfl⟩ := owns_slice hown'
    refine h ao cap w' hown' ?_ ?_
    · exact ((Below.refl base wr).alloc hbase _).grown hgrow (by simp; omega) (fun k hk => (hown.lt k hk).1)
    · intro k hk hne
      rw [hgrow.block k (by simp; omega) (fun e => hne e.symm), alloc_old wr _ k hk]
def strsV (l : List (List UInt8)) : List Value := l.map fun x => Value.string (txt x)
/-- A slice of texts. -/
def Tx (w : World) (v : Value) (l : List (List UInt8)) : Prop := ∃ ao cap, v = .slice ao l.length cap ∧ l.length ≤ cap ∧ ∀ j x, l[j]? = some x → ∃ g o, ao = some ⟨g, o, none⟩ ∧ w.cell? ⟨g, o + j, none⟩ = some (.string (txt x))
theorem Tx.below {w w' : World} {v : Value} {l : List (List UInt8)} (h : Tx w v l) (hb : Below w.heap.size w w') : Tx w' v l := by
  obtain ⟨ao, cap, e, hcp, hx⟩ := h
  refine ⟨ao, cap, e, hcp, fun j x hj => ?_⟩
  obtain ⟨g, o, e2, hc⟩ := hx j x hj
  exact ⟨g, o, e2, (hb.cell (World.block_lt_of_cell? w _ hc)).trans hc⟩
theorem tx_own {w : World} {base : Nat} {v : Value} {l : List (List UInt8)} (h : w.ownsRow base 9 1 v l.length (strsV l)) : Tx w v l := by
  rcases h.2 with ⟨rfl, h0⟩ | ⟨g, cap, cur, rfl, _, _, hcp, _⟩
  · refine ⟨none, 0, by rw [h0], by omega, fun j x hj => ?_⟩
    have := (List.getElem?_eq_some_iff.1 hj).1
    omega
  · refine ⟨_, cap, rfl, hcp, fun j x hj => ⟨g, 0, rfl, ?_⟩⟩
    have h1 : (strsV l)[j]? = some (.string (txt x)) := by simp [strsV, hj]
    have h2 := World.ownsRow.cells h rfl j _ h1
    rw [Nat.zero_add, ← h2]
    congr 1
    unfold Addr.add; split <;> simp_all
def szs (l : List (List UInt8)) : Nat := (l.map List.length).sum
theorem szs_cons (x : List UInt8) (l : List (List UInt8)) : szs (x :: l) = x.length + szs l := by simp [szs]
theorem szs_le {l : List (List UInt8)} {k : Nat} {x : List UInt8} (h : l[k]? = some x) : x.length ≤ szs l := by
  induction l generalizing k with
  | nil => simp at h
  | cons y l ih =>
    rw [szs_cons]
    cases k with
    | zero => simp at h; subst h; omega
    | succ k => have := ih (k := k) (by simpa using h); omega
def fitsB (l : List (List UInt8)) : Bool := decide (l.length ≤ 2147483647) && l.all fun x => decide (x.length ≤ 2147483647)
theorem fits_sz {l : List (List UInt8)} (h : fitsB l = true) : l.length + szs l ≤ 4611686018427387903 := by
  unfold fitsB at h
  rw [Bool.and_eq_true] at h
  have h1 := of_decide_eq_true h.1
  have h2 : ∀ (l : List (List UInt8)), (l.all fun x => decide (x.length ≤ 2147483647)) = true → szs l ≤ l.length * 2147483647 := by
    intro l
    induction l with
    | nil => intro _; simp [szs]
    | cons x l ih =>
      intro h
      rw [List.all_cons, Bool.and_eq_true] at h
      have h3 := of_decide_eq_true h.1
      have h4 := ih h.2
      rw [szs_cons, List.length_cons, Nat.add_mul]
      omega
  have h3 := h2 l h.2
  have h4 := Nat.mul_le_mul_right 2147483647 h1
  omega
theorem szs_app (a b : List (List UInt8)) : szs (a ++ b) = szs a + szs b := by unfold szs; rw [List.map_append, List.sum_append]
theorem szs_take (l : List (List UInt8)) (k : Nat) : szs (l.take k) + szs (l.drop k) = szs l := by
  rw [← szs_app, List.take_append_drop]

open Go.ChangeShapes Go.WideShapes
theorem Tryd.laidOutW : laidOutB Tryd.prog = true := by kernel_rfl
theorem cells_str : Tryd.prog.cellsOf 9 = 1 := by kernel_rfl
theorem open_texts {H : Type} {enc : TypeId × Value → H} {W : World} {a0 : Option Addr} {len cap fuel : Nat} {x : DataW H × List MemPlace}
    (hf : DataW.trod enc Tryd.prog W 0 (fun _ => true) true fuel 44 [.slice a0 len cap] = some x) :
    ∃ l : List (List UInt8), Tx W (.slice a0 len cap) l ∧ l.length ≤ 9223372036854775807 ∧ ∀ y ∈ l, y.length ≤ 9223372036854775807 := by
  rcases open_strings Tryd.underlying44 Tryd.underlying9 cells_str hf with ⟨hcs, hx⟩ | ⟨a, len', cap', ss, hcs, _, hl, hm, hz, hx, hcell, hsz⟩
  · simp at hcs
    obtain ⟨rfl, rfl, rfl⟩ := hcs
    exact ⟨[], ⟨none, 0, rfl, Nat.le_refl _, fun j y h => by simp at h⟩, by simp, fun y h => by cases h⟩
  · simp at hcs
    obtain ⟨rfl, rfl, rfl⟩ := hcs
    simp only [if_true] at hz
    unfold maxLen at hm hsz
    have hlen : ((ss.take len).map fun s => s.data.toList).length = len := by simp; omega
    refine ⟨(ss.take len).map fun s => s.data.toList, ⟨some a, cap, by rw [hlen], by rw [hlen]; exact hl, fun j y hj => ?_⟩, by rw [hlen]; omega, fun y hy => ?_⟩
    · have hjl : j < len := by
        have := (List.getElem?_eq_some_iff.1 hj).1
        omega
      obtain ⟨b, off, spot⟩ := a
      have hc := hcell j (by omega)
      have hspot : spot = none := by simpa [Addr.add] using World.cell?_spot (hcell 0 (by omega))
      subst hspot
      refine ⟨b, off, rfl, ?_⟩
      have hss : j < ss.length := by omega
      rw [List.getElem?_map, List.getElem?_take_of_lt hjl, List.getElem?_eq_getElem hss] at hj
      have hy : ss[j].data.toList = y := by simpa using hj
      have hgd : ss.getD j ByteArray.empty = ss[j] := by simp [List.getD, List.getElem?_eq_getElem hss]
      rw [hgd] at hc
      have e1 : (⟨b, off, none⟩ : Addr).add j = ⟨b, off + j, none⟩ := by simp [Addr.add]
      rw [e1] at hc
      rw [hc, ← hy]
      rfl
    · obtain ⟨s, hs, rfl⟩ := List.mem_map.1 hy
      have := hsz s (List.mem_of_mem_take hs)
      rw [size_list] at this
      omega

end Go.Proofs.YtdfhidnhkeapbaaDoor
