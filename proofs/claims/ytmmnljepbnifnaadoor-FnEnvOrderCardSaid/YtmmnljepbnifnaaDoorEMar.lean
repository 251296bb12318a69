/- godotenv.Marshal of a map of few entries. Conditions: the sizes, and the tables that are laid. -/
import Derived.Test.YtmmnljepbnifnaaDoorEEsc
import Derived.Test.YtmmnljepbnifnaaDoorESort
import Derived.Test.YtmmnljepbnifnaaDoorGApk
import Derived.Lib.AppendIntMem
import Derived.Lib.ItoaLen
import Derived.Lib.SmallJoins
namespace Go.Proofs.YtmmnljepbnifnaaDoor
open Go.RowKit U8 Go.Sort
open Go.Lib hiding intOf

def kvV (kv : KVs) : Es := kv.map fun p => (Value.string (txt p.1), Value.string (txt p.2))
theorem kvV_split {kv : KVs} {l1 l2 : Es} {k v : Value} (h : kvV kv = l1 ++ (k, v) :: l2) : ∃ r1 p r2, kv = r1 ++ p :: r2 ∧ l1 = kvV r1 ∧ l2 = kvV r2 ∧ k = .string (txt p.1) ∧ v = .string (txt p.2) := by
  unfold kvV at h
  obtain ⟨r1, r2, rfl, h1, h2⟩ := List.map_eq_append_iff.1 h
  obtain ⟨p, r3, rfl, h3, h4⟩ := List.map_eq_cons_iff.1 h2
  simp only [Prod.mk.injEq] at h3
  exact ⟨r1, p, r3, rfl, h1.symm, h4.symm, h3.1.symm, h3.2.symm⟩
theorem len_mb {P : Program} {m : Nat} {es : Es} {w : World} (h : MB m es w) {t k e : TypeId} (ht : P.underlying t = some (.map k e)) (ty : TypeId) : (Builtin.len_ #[t] ty #[.map (some m)]).run P w = .ok (.int .i64 es.length) w := by
  obtain ⟨arr, c, h1, h2, _⟩ := h
  have hs : arr.size = es.length := by rw [← h2]; simp [esOf]
  simp [Builtin.len_, run_underlying ht, MapKept.run_getObj_map h1, goInt, hs]
/-- The sentinels and the table that numbers want. -/
structure Et (w : World) : Prop where
  syn : ∃ tp p, w.cell? ⟨3, 0, none⟩ = some (.iface tp p)
  rng : ∃ tp p, w.cell? ⟨4, 0, none⟩ = some (.iface tp p)
  pow : Lib.TabIs Tryd.prog w "internal/strconv.uint64pow10" .u64 Lib.pow10Tab
theorem Et.below {w w' : World} (h : Et w) (hb : Below w.heap.size w w') : Et w' := by
  obtain ⟨⟨a, b, h1⟩, ⟨c, d, h2⟩, h3⟩ := h
  exact ⟨⟨a, b, (hb.cell (World.block_lt_of_cell? w _ h1)).trans h1⟩, ⟨c, d, (hb.cell (World.block_lt_of_cell? w _ h2)).trans h2⟩, tabBelow_of_tabIs h3 w' hb⟩
/-- A text as a number: the number and no error, or an error. -/
def AtoiPost (l : List UInt8) (w : World) (e : Ending) (w' : World) : Prop :=
  Below w.heap.size w w' ∧ ((∃ d, atoiAll l = .ok d ∧ e = .returned (.tuple #[.int .i64 d, .nilIface])) ∨ (∃ (d : Int) (t : TypeId) (p : Value), lineE ([], l) = [61, 34] ++ escD l ++ [34] ∧ (∀ k, lineE (k, l) = k ++ [61, 34] ++ escD l ++ [34]) ∧ e = .returned (.tuple #[.int .i64 d, .iface t p])))
theorem atoi_any (l : List UInt8) (w : World) (hl : l.length ≤ 2147483647) (hT : Et w) : Calls Tryd.prog 32 #[.string (txt l)] w (AtoiPost l w) := by
  have hsz := txt_size l
  obtain ⟨⟨a, b, h1⟩, ⟨c, d, h2⟩, _⟩ := hT
  cases h : atoiAll l with
  | ok v =>
    refine (Tryd.strconv_Atoi_ok (txt l) (by omega) v (by rw [txt_list]; exact h) w).mono ?_
    rintro e w' ⟨rfl, hw⟩
    refine ⟨?_, .inl ⟨v, h, rfl⟩⟩
    rcases hw with rfl | ⟨t, rfl⟩
    · exact Below.refl _ _
    · exact bytesWorld_below (Below.refl _ _) (Nat.le_refl _) _ _
  | «syntax» =>
    refine (Tryd.strconv_Atoi_syntax (txt l) (by omega) (by rw [txt_list]; exact h) _ w h1 (.inr ⟨_, _, rfl⟩)).mono ?_
    rintro e w' ⟨N, rfl, _, _, hb⟩
    exact ⟨hb, .inr ⟨_, _, _, by simp [lineE, h], fun k => by simp [lineE, h], rfl⟩⟩
  | range =>
    refine (Tryd.strconv_Atoi_range (txt l) (by omega) (by rw [txt_list]; exact h) _ w h2 (.inr ⟨_, _, rfl⟩)).mono ?_
    rintro e w' ⟨N, rfl, _, _, hb⟩
    exact ⟨hb, .inr ⟨_, _, _, by simp [lineE, h], fun k => by simp [lineE, h], rfl⟩⟩
theorem lineE_len (p : List UInt8 × List UInt8) : (lineE p).length ≤ p.1.length + 128 * p.2.length + 30 := by
  have he := escD_len p.2
  unfold lineE
  cases h : atoiAll p.2 with
  | ok d =>
    obtain ⟨h0, h1⟩ := atoi_int h
    have := itoa_length_le d h0 h1
    simp only [List.length_append, List.length_cons, List.length_nil]; omega
  | «syntax» => simp only [List.length_append, List.length_cons, List.length_nil]; omega
  | range => simp only [List.length_append, List.length_cons, List.length_nil]; omega
theorem join_len (l : List (List UInt8)) (M : Nat) (h : ∀ x ∈ l, x.length ≤ M) : (join l [10]).length ≤ l.length * (M + 1) := by
  unfold join
  induction l with
  | nil => simp
  | cons x l ih =>
    have h1 := ih fun y hy => h y (List.mem_cons_of_mem _ hy)
    have h2 := h x List.mem_cons_self
    cases l with
    | nil => simp; omega
    | cons y l =>
      rw [List.intercalate_cons_cons, List.length_append, List.length_append]
      simp only [List.length_cons, List.length_nil] at *
      rw [Nat.add_mul]
      omega
theorem join_own (B : Nat) (ao : Option Addr) (cap : Nat) (L : List (List UInt8)) (w : World) (h : w.ownsRow B 9 1 (.slice ao L.length cap) L.length (strsV L)) (hl : L.length ≤ 1000000000) (hj : (join L [10]).length ≤ 140737488355328) :
    Calls Tryd.prog 36 #[.slice ao L.length cap, .string ⟨#[10]⟩] w fun e w' => e = .returned (.string (txt (join L [10]))) ∧ Below w.heap.size w w' := by
  rcases h.2 with ⟨h0, h1⟩ | ⟨g, cap2, cur, h0, hg, hh, hc, hm, hcs, htk⟩
  · simp at h0
    obtain ⟨rfl, _, rfl⟩ := h0
    have hL : L = [] := List.eq_nil_of_length_eq_zero h1
    subst hL
    refine (Tryd.strings_Join_none none 0 ⟨#[10]⟩ w).mono ?_
    rintro e w' ⟨rfl, rfl⟩
    exact ⟨rfl, Below.refl _ _⟩
  · cases h0
    have hlg := (Array.getElem?_eq_some_iff.1 hh).1
    have hm2 : (L.map txt).map (·.data.toList) = L := by rw [List.map_map]; exact (List.map_congr_left (fun x _ => txt_list x)).trans (List.map_id L)
    have := Tryd.strings_Join g 0 cap (L.map txt) ⟨#[10]⟩ w (fun j x hx => by
      rw [List.getElem?_map] at hx
      cases hq : L[j]? with
      | none => rw [hq] at hx; cases hx
      | some y =>
        rw [hq] at hx
        have hxy : txt y = x := by simpa using hx
        have h2 := World.ownsRow.cells h rfl j (.string (txt y)) (by simp [strsV, hq])
        have ea : (⟨g, 0, none⟩ : Addr).add j = ⟨g, 0 + j, none⟩ := by unfold Addr.add; split <;> simp_all
        rw [ea, hxy] at h2
        exact h2) hlg (by rw [List.length_map]; omega) (by rw [List.length_map]; exact hc) (by rw [hm2]; exact hj)
    rw [List.length_map, hm2] at this
    exact this
end Go.Proofs.YtmmnljepbnifnaaDoor
