/- sort.Strings over a row of the call's own; the number that a text is, or none; joining. Conditions: the sizes. -/
import Derived.Test.YtdfhidnhkeapbaaDoorMb
import Derived.Test.YtdfhidnhkeapbaaDoorGList
import Derived.Sort.OwnSorted
namespace Go.Proofs.YtdfhidnhkeapbaaDoor
open Go.RowKit U8 Go.Sort
open Go.Lib hiding intOf

theorem strsV_enc (l : List (List UInt8)) : strsV l = l.map encStr := rfl
theorem sort_own (B : Nat) (ao : Option Addr) (cap : Nat) (L : List (List UInt8)) (w : World) (h : w.ownsRow B 9 1 (.slice ao L.length cap) L.length (strsV L)) (hl : L.length ≤ 1000000000) :
    Calls Tryd.prog 24 #[.slice ao L.length cap] w fun e w' => e = .returned (.tuple #[]) ∧ w'.ownsRow B 9 1 (.slice ao L.length cap) L.length (strsV (L.mergeSort fun x y => decide (x ≤ y))) ∧ Below B w w' ∧ (∀ k, k < w.heap.size → (Value.slice ao L.length cap).ownBlock ≠ some k → w'.heap[k]? = w.heap[k]?) := by
  rcases h.2 with ⟨h0, h1⟩ | ⟨g, cap2, cur, h0, hg, hh, hc, hm, hcs, htk⟩
  · simp at h0
    obtain ⟨rfl, _, rfl⟩ := h0
    have hL : L = [] := List.eq_nil_of_length_eq_zero h1
    subst hL
    refine (Tryd.sort_Strings_none none 0 w).mono ?_
    rintro e w' ⟨rfl, rfl⟩
    exact ⟨rfl, by rw [List.mergeSort_nil]; exact h, Below.refl _ _, fun _ _ _ => rfl⟩
  · cases h0
    have hlg := (Array.getElem?_eq_some_iff.1 hh).1
    have hH : Holds encStr w g 0 L.toArray := holds_of_block hh (by rw [Nat.mul_one] at htk; exact htk)
    refine (Tryd.sort_Strings g 0 cap L w hH hlg (by omega)).mono ?_
    rintro e w' ⟨rfl, n, os, rfl⟩
    have hgr := grownBy_sorted (w := w) (g := g) (n := n) (os := os) (L.mergeSort fun x y => decide (x ≤ y)).toArray
    refine ⟨rfl, ownsRow_sorted (by rw [List.length_mergeSort]) hg hh hc hm hcs, ?_, fun k hk hne => hgr.block k hk (fun e => hne e.symm)⟩
    exact (Below.refl B w).grown hgr (by omega) (fun k hk => by cases hk; exact hg)
end Go.Proofs.YtdfhidnhkeapbaaDoor
