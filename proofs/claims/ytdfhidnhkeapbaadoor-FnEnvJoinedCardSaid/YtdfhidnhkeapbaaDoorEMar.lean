/- godotenv.Marshal of a map of few entries. Conditions: the sizes, and the tables that are laid. -/
import Derived.Test.YtdfhidnhkeapbaaDoorEEsc
import Derived.Test.YtdfhidnhkeapbaaDoorESort
import Derived.Test.YtdfhidnhkeapbaaDoorGApk
import Derived.Lib.AppendIntMem
import Derived.Lib.ItoaLen
import Derived.Lib.SmallJoins
namespace Go.Proofs.YtdfhidnhkeapbaaDoor
open Go.RowKit U8 Go.Sort
open Go.Lib hiding intOf

def kvV (kv : KVs) : Es := kv.map fun p => (Value.string (txt p.1), Value.string (txt p.2))
theorem kvV_split {kv : KVs} {l1 l2 : Es} {k v : Value} (h : kvV kv = l1 ++ (k, v) :: l2) : ∃ r1 p r2, kv = r1 ++ p :: r2 ∧ l1 = kvV r1 ∧ l2 = kvV r2 ∧ k = .string (txt p.1) ∧ v = .string (txt p.2) := by
  unfold kvV at h
  obtain ⟨r1, r2, rfl, h1, h2⟩ := List.map_eq_append_iff.1 h
  obtain ⟨p, r3, rfl, h3, h4⟩ := List.map_eq_cons_iff.1 h2
  simp only [Prod.mk.injEq] at h3
  exact ⟨r1, p, r3, rfl, h1.symm, h4.symm, h3.1.symm, h3.2.symm⟩
theorem len_mb {P : Program} {m : Nat} {es : Es} {w : World} (h : MB m es w) {t k e : TypeId} (ht : P.underlying t = some (.map k e)) (ty : TypeId) : (Builtin.len_ #[t] ty #[.map (some m)]).run P w = .ok (.int .i64 es.length) w := by
  obtain ⟨arr, c, h1, h2, _⟩ := h
  have hs : arr.size = es.length := by rw [← h2]; simp [esOf]
  simp [Builtin.len_, run_underlying ht, MapKept.run_getObj_map h1, goInt, hs]
/-- A text as a number: the number and no error, or an error. -/
def AtoiPost (l : List UInt8) (w : World) (e : Ending) (w' : World) : Prop :=
  Below w.heap.size w w' ∧ ((∃ d, atoiAll l = .ok d ∧ e = .returned (.tuple #[.int .i64 d, .nilIface])) ∨ (∃ (d : Int) (t : TypeId) (p : Value), lineE ([], l) = [61, 34] ++ escD l ++ [34] ∧ (∀ k, lineE (k, l) = k ++ [61, 34] ++ escD l ++ [34]) ∧ e = .returned (.tuple #[.int .i64 d, .iface t p])))
theorem join_len (l : List (List UInt8)) (M : Nat) (h : ∀ x ∈ l, x.length ≤ M) : (join l [10]).length ≤ l.length * (M + 1) := by
  unfold join
  induction l with
  | nil => simp
  | cons x l ih =>
    have h1 := ih fun y hy => h y (List.mem_cons_of_mem _ hy)
    have h2 := h x List.mem_cons_self
    cases l with
    | nil => simp; omega
    | cons y l =>
      rw [List.intercalate_cons_cons, List.length_append, List.length_append]
      simp only [List.length_cons, List.length_nil] at *
      rw [Nat.add_mul]
      omega
end Go.Proofs.YtdfhidnhkeapbaaDoor
