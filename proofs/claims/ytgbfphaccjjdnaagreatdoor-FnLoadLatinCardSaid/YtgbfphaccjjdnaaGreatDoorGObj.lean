/- Properties of any number of keys: how they are made, set, read; their text. -/
import Derived.Test.YtgbfphaccjjdnaaGreatDoorGMap
namespace Go.Proofs.YtgbfphaccjjdnaaGreatDoor
open Go.RowKit U8
open Go.Lib hiding intOf

theorem al_old (W : World) (o : Obj) (k : Nat) (h : k < W.heap.size) : (W.alloc o).heap[k]? = W.heap[k]? := by
  show (W.heap.push o)[k]? = W.heap[k]?
  rw [Array.getElem?_push, if_neg (by omega)]
theorem al_new (W : World) (o : Obj) (k : Nat) (h : k = W.heap.size) : (W.alloc o).heap[k]? = some o := by
  subst h
  show (W.heap.push o)[W.heap.size]? = some o
  simp
theorem newProps (w : World) :
    Calls Tryz.prog 39 #[] w fun e w' => e = .returned (.pointer (some ⟨w.heap.size + 3, 0, none⟩)) ∧
      w'.heap[w.heap.size]? = some (.map #[] 0) ∧
      w'.heap[w.heap.size + 2]? = some (.cells #[] 9 (0, 0)) ∧
      w'.heap[w.heap.size + 3]? = some (.cells #[.string ⟨#[36, 123]⟩, .string ⟨#[125]⟩, .bool false, .map (some w.heap.size), .map (some (w.heap.size + 1)), .slice (some ⟨w.heap.size + 2, 0, none⟩) 0 0, .string ⟨#[]⟩] 72 (0, 0)) ∧
      Below w.heap.size w w' ∧ w'.heap.size = w.heap.size + 4 := by
  have hmm := @run_makeMap Tryz.prog
  go_enter Tryz.func39, Tryz.ntmps39
  go_wp2
  go_ret
  refine ⟨rfl, ?_, ?_, ?_, ?_, by simp⟩
  · rw [al_old _ _ _ (by simp; omega), al_old _ _ _ (by simp; omega), al_old _ _ _ (by simp), al_new w _ _ rfl]
  · rw [al_old _ _ _ (by simp), al_new _ _ _ (by simp)]
  · rw [al_new _ _ _ (by simp)]
  · have b1 := (Below.refl w.heap.size w).alloc (Nat.le_refl _) (.map #[] 0)
    have b2 := b1.alloc b1.size (.map #[] 0)
    have b3 := b2.alloc b2.size (.cells #[] 9)
    exact b3.alloc b3.size _


abbrev KV := List (List UInt8 × List UInt8)
def keysV (kv : KV) : List Value := strsV (kv.map Prod.fst)
/-- A set of properties without expansion, in memory: its own block b, its map m, its keys in their order. -/
def Pr (B b m : Nat) (s1 s2 c s3 : Value) (kv : KV) (W : World) : Prop :=
  B ≤ b ∧ B ≤ m ∧ IsM m kv W ∧ ∃ vk, W.heap[b]? = some (.cells #[s1, s2, .bool true, .map (some m), c, vk, s3] 72 (0, 0)) ∧ W.ownsRow B 9 1 vk kv.length (keysV kv)
theorem Pr.below {B b m : Nat} {s1 s2 c s3 : Value} {kv : KV} {w w' : World} (h : Pr B b m s1 s2 c s3 kv w) (hb : Below w.heap.size w w') : Pr B b m s1 s2 c s3 kv w' := by
  obtain ⟨h1, h2, h3, vk, h4, h5⟩ := h
  exact ⟨h1, h2, h3.below hb, vk, (hb.block b (Array.getElem?_eq_some_iff.1 h4).1).trans h4, owns_below h5 hb⟩
theorem Pr.cells {B b m : Nat} {s1 s2 c s3 : Value} {kv : KV} {w : World} (h : Pr B b m s1 s2 c s3 kv w) : w.cell? ⟨b, 2, none⟩ = some (.bool true) ∧ w.cell? ⟨b, 3, none⟩ = some (.map (some m)) ∧ w.cell? ⟨b, 6, none⟩ = some s3 := by
  obtain ⟨_, _, _, vk, h4, _⟩ := h
  exact ⟨by simp [World.cell?, h4], by simp [World.cell?, h4], by simp [World.cell?, h4]⟩
/-- A row of texts is no block of another make. -/
theorem own_ne_cells {B b n : Nat} {v : Value} {xs : List Value} {w : World} {x : Array Value} {T : TypeId} {fz : Nat × Nat} (h : w.ownsRow B 9 1 v n xs) (hb : w.heap[b]? = some (.cells x T fz)) (hT : T ≠ 9) : v.ownBlock ≠ some b := by
  intro e
  rcases h.2 with ⟨rfl, _⟩ | ⟨g, cap, cur, rfl, _, hg, _⟩
  · cases e
  · have : g = b := by simpa [Value.ownBlock] using e
    subst this
    rw [hg] at hb
    cases hb
    exact hT rfl
theorem own_ne_map {B b n : Nat} {v : Value} {xs : List Value} {w : World} {es : Array MapEntry} {cl : Nat} (h : w.ownsRow B 9 1 v n xs) (hb : w.heap[b]? = some (.map es cl)) : v.ownBlock ≠ some b := by
  intro e
  rcases h.2 with ⟨rfl, _⟩ | ⟨g, cap, cur, rfl, _, hg, _⟩
  · cases e
  · have : g = b := by simpa [Value.ownBlock] using e
    subst this
    rw [hg] at hb
    cases hb
theorem owns_of {B n : Nat} {v : Value} {xs : List Value} {w w' : World} (h : w.ownsRow B 9 1 v n xs) (hb : ∀ g, v.ownBlock = some g → w'.heap[g]? = w.heap[g]?) : w'.ownsRow B 9 1 v n xs := by
  refine ⟨h.1, ?_⟩
  rcases h.2 with h2 | ⟨g, cap, cur, rfl, hg, hh, r⟩
  · exact .inl h2
  · exact .inr ⟨g, cap, cur, rfl, hg, (hb g rfl).trans hh, r⟩
theorem get_hit (B b m : Nat) (s1 s2 c s3 : Value) (kv : KV) (k v : List UInt8) (w : World) (h : Pr B b m s1 s2 c s3 kv w) (hk : (k, v) ∈ kv) :
    Calls Tryz.prog 27 #[.pointer (some ⟨b, 0, none⟩), .string (txt k)] w fun e w' => e = .returned (.tuple #[.string (txt v), .bool true]) ∧ w' = w := by
  obtain ⟨c2, c3, _⟩ := h.cells
  have hlk := look_hit (P := Tryz.prog) 57 9 9 m kv k v Tryz.underlying57 Tryz.underlying9 h.2.2.1 hk
  clear h hk
  go_enter Tryz.func27, Tryz.ntmps27
  go_wp2
  go_ret2
  exact ⟨rfl, rfl⟩
theorem get_miss (B b m : Nat) (s1 s2 c s3 : Value) (kv : KV) (k : List UInt8) (w : World) (h : Pr B b m s1 s2 c s3 kv w) (hk : ∀ p ∈ kv, p.1 ≠ k) :
    Calls Tryz.prog 27 #[.pointer (some ⟨b, 0, none⟩), .string (txt k)] w fun e w' => e = .returned (.tuple #[.string ⟨#[]⟩, .bool false]) ∧ w' = w := by
  obtain ⟨c2, c3, _⟩ := h.cells
  have hlk := look_miss (P := Tryz.prog) 57 9 9 m kv k (.string ⟨#[]⟩) Tryz.underlying57 Tryz.underlying9 (by kernel_rfl) h.2.2.1 hk
  clear h hk
  go_enter Tryz.func27, Tryz.ntmps27
  go_wp2
  go_ret2
  exact ⟨rfl, rfl⟩

/-- What a store into the properties leaves alone. -/
def KeptP (b m : Nat) (w w' : World) : Prop := ∀ r, r < w.heap.size → r ≠ b → r ≠ m → (∀ x fz, w.heap[r]? ≠ some (.cells x 9 fz)) → w'.heap[r]? = w.heap[r]?
theorem own_ne_other {B r n : Nat} {v : Value} {xs : List Value} {w : World} (h : w.ownsRow B 9 1 v n xs) (hr : ∀ x fz, w.heap[r]? ≠ some (.cells x 9 fz)) : v.ownBlock ≠ some r := by
  intro e
  rcases h.2 with ⟨rfl, _⟩ | ⟨g, cap, cur, rfl, _, hg, _⟩
  · cases e
  · have : g = r := by simpa [Value.ownBlock] using e
    subst this
    exact hr _ _ hg
end Go.Proofs.YtgbfphaccjjdnaaGreatDoor
