/- One element more, of several cells, at a list of the call's own. No condition of its own. -/
import Derived.Test.YtdfhidnhkeapbaaDoorGTx
namespace Go.Proofs.YtdfhidnhkeapbaaDoor
open Go.RowKit U8
open Go.Lib hiding intOf

theorem wpList_appk {P : Program} {wr : World} {ops : Array Oper} {rest : List Oper} {o : Oper} {a : Act} {Q : Exit → Act → World → Prop} (hgd : o.guard = none) (s x : Operand) (t e : TypeId)
    (ho : o.op = .call { callee := .builtin .append, args := #[s, x], argTypes := #[t, t] }) (k : Nat) (i : TypeInfo) (z : Value) (bytes : Nat) (ht : P.underlying t = some (.slice e)) (hi : P.info? e = some i) (hz : i.zero = some z)
    (hsize : i.size = k) (hby : i.bytes = bytes) (hzs : z.cells.size = k) (hk : 0 < k) (base : Nat) (v : Value) (n : Nat) (xs : List Value) (hs : a.eval s = v) (hown : wr.ownsRow base e k v n xs) (us : Array Value) (hul : us.size = k) (hu : ∀ u ∈ us.toList, u.oneCell' = true)
    (g : Nat) (hx : a.eval x = .slice (some ⟨g, 0, none⟩) 1 1) (hg : g = wr.heap.size) (hn : (n + 1) * bytes ≤ 140737488355328) (hn2 : n + 1 ≤ 140737488355328) (hbase : base ≤ wr.heap.size)
    (h : ∀ ao cap w', w'.ownsRow base e k (.slice ao (n + 1) cap) (n + 1) (xs ++ us.toList) → Below base wr w' → (∀ k, k < wr.heap.size → v.ownBlock ≠ some k → w'.heap[k]? = wr.heap[k]?) → wpList P ops Q rest (a.put o.dst (.slice ao (n + 1) cap)) w') :
    wpList P ops Q (o :: rest) a (wr.alloc (.cells us e)) := by
  subst hg
  refine wpList_append_own _ hgd s x t ho base e i z k bytes ht hi hz hsize hby hzs hk v n xs hs (hown.alloc _) ⟨wr.heap.size, 0, none⟩ 1 1 us.toList hx (by rw [Array.length_toList, hul]; omega) ?_ hu (by unfold maxLen; omega) hn (by simp; omega) ?_
  · intro j y hj
    have ea : (⟨wr.heap.size, 0, none⟩ : Addr).add j = ⟨wr.heap.size, j, none⟩ := by unfold Addr.add; split <;> simp_all
    rw [ea, World.cell?_alloc_new, ← hj, Array.getElem?_toList]
  · intro v' w' hown' hgrow _
    obtain ⟨ao, cap, rfl⟩ := owns_slice hown'
    refine h ao cap w' hown' ?_ ?_
    · exact ((Below.refl base wr).alloc hbase _).grown hgrow (by simp; omega) (fun k hk => (hown.lt k hk).1)
    · intro k hk hne
      rw [hgrow.block k (by simp; omega) (fun e => hne e.symm), alloc_old wr _ k hk]
end Go.Proofs.YtdfhidnhkeapbaaDoor
