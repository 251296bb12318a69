/- properties.expand: references put in their places. Conditions: those of its plain form, which ends. -/
import Derived.Test.YtdfhidnhkeapbaaGreatDoorLxIdx
namespace Go.Proofs.YtdfhidnhkeapbaaGreatDoor
open Go.RowKit U8
open Go.Lib hiding intOf

/-- The value of a key, or none. -/
def valOf (kv : KV2) (k : List UInt8) : List UInt8 := match kv.find? (fun p => p.1 == k) with | some p => p.2 | none => []
abbrev Res := Option (Option (List UInt8))
/-- The rounds over one text, with a way of expanding the values that it names; none: it is not told; some none: an error. -/
def exL (E : List (List UInt8) → List UInt8 → Res) (kv : KV2) (ks : List (List UInt8)) : Nat → List UInt8 → Res
  | 0, _ => none
  | n + 1, s => if 100000000000000000 < s.length then none else
    match idxZ [36, 123] s with
    | none => some (some s)
    | some i => match idxZ [125] (s.drop (i + 2)) with
      | none => some none
      | some k => if (s.drop (i + 2)).take k ∈ ks then some none else
        match E (ks ++ [(s.drop (i + 2)).take k]) (valOf kv ((s.drop (i + 2)).take k)) with
        | none => none
        | some none => some none
        | some (some nv) => if 100000000000000000 < nv.length then none else exL E kv ks n (s.take i ++ nv ++ s.drop (i + 2 + k + 1))
def exD (kv : KV2) (N : Nat) : Nat → List (List UInt8) → List UInt8 → Res
  | 0, _, _ => none
  | d + 1, ks, s => if 64 < ks.length then some none else exL (exD kv N d) kv ks N s
theorem valOf_look {P : Program} {w : World} (m : Nat) (kv : KV2) (k : List UInt8) (mty kt : TypeId) (et : TypeId) (hm : P.underlying mty = some (.map kt et)) (hk : P.underlying kt = some .string) (hz : ∀ w, (zeroValue et).run P w = .ok (.string ⟨#[]⟩) w) (h : MB m (kvW (sV kv)) w) (hn : (kv.map Prod.fst).Nodup) :
    (Instr.lookup mty (.map (some m)) (.string (txt k)) false).run P w = .ok (.string (txt (valOf kv k))) w := by
  unfold valOf
  cases hf : kv.find? (fun p => p.1 == k) with
  | none =>
    have hmiss : ∀ p ∈ sV kv, p.1 ≠ k := by
      intro p hp e
      obtain ⟨q, hq, rfl⟩ := List.mem_map.1 hp
      have := List.find?_eq_none.1 hf q hq
      simp at this
      exact this e
    exact (lookw_miss mty kt et m (sV kv) k (.string ⟨#[]⟩) hm hk (hz w) h hmiss).2
  | some p =>
    have hp := List.mem_of_find?_eq_some hf
    have hk2 : p.1 = k := by simpa using List.find?_some hf
    subst hk2
    exact (lookw_hit mty kt et m (sV kv) p.1 (.string (txt p.2)) hm hk h (by rw [sV_fst]; exact hn) (List.mem_map.2 ⟨p, hp, rfl⟩)).2
/-- How expand ends. -/
def ExpP (B : Nat) (vks : Value) (n : Nat) (ks : List (List UInt8)) (R : Option (List UInt8)) (W : World) (e : Ending) (w' : World) : Prop :=
  (match R with | some r => e = .returned (.tuple #[.string (txt r), .nilIface]) | none => ∃ a, e = .returned (.tuple #[.string ⟨#[]⟩, .iface 161 (.pointer (some ⟨a, 0, none⟩))])) ∧
    w'.ownsRow B 9 1 vks n (strsV ks) ∧ Below B W w' ∧ ∀ r, r < W.heap.size → vks.ownBlock ≠ some r → w'.heap[r]? = W.heap[r]?
theorem own_of_more {B n : Nat} {e : TypeId} {g cap : Nat} {xs : List Value} {u : Value} {W0 W : World} (h0 : W0.ownsRow B e 1 (.slice (some ⟨g, 0, none⟩) n cap) n xs) (h : W.ownsRow B e 1 (.slice (some ⟨g, 0, none⟩) (n + 1) cap) (n + 1) (xs ++ [u])) : W.ownsRow B e 1 (.slice (some ⟨g, 0, none⟩) n cap) n xs := by
  have hl := h0.1
  refine ⟨hl, ?_⟩
  rcases h.2 with ⟨e1, _⟩ | ⟨g2, cap3, cur, e1, hg, hh, hc, hm, hcs, ht⟩
  · cases e1
  · cases e1
    refine .inr ⟨g, cap, cur, rfl, hg, hh, by omega, hm, hcs, ?_⟩
    have h9 := congrArg (List.take (n * 1)) ht
    rw [List.take_take, Nat.min_eq_left (by omega)] at h9
    rw [h9, List.take_append_of_le_length (by omega), List.take_of_length_le (by omega)]
theorem errNew (t : ByteArray) (W : World) : Calls Tryz.prog 83 #[.string t] W fun e w' => e = .returned (.iface 161 (.pointer (some ⟨W.heap.size, 0, none⟩))) ∧ w' = W.alloc (.cells #[.string t] 163) := by
  go_enter Tryz.func83, Tryz.ntmps83
  go_wp2
  go_ret
  exact ⟨rfl, rfl⟩
theorem slice_from (s : List UInt8) (k : Nat) (lo : Int) (hlo : lo = k) (h : k ≤ s.length) (W : World) : (Instr.slice 9 (.string (txt s)) (some (.int .i64 lo)) none none).run Tryz.prog W = .ok (.string (txt (s.drop k))) W := by
  subst hlo
  have hts := txt_size s
  have hex : (txt s).extract k s.length = txt (s.drop k) := by
    rw [txt_extract, List.take_of_length_le (Nat.le_refl _)]
  simp [Instr.slice, run_underlying Tryz.underlying9, Instr.sliceBounds, run_sliceBound, (by omega : (0 : Int) ≤ k), hts, (by omega : (k : Int) ≤ (s.length : Int)), hex]
theorem slice_to (s : List UInt8) (k : Nat) (h : k ≤ s.length) (W : World) : (Instr.slice 9 (.string (txt s)) none (some (.int .i64 (k : Int))) none).run Tryz.prog W = .ok (.string (txt (s.take k))) W := by
  have hts := txt_size s
  have hex : (txt s).extract 0 k = txt (s.take k) := by
    rw [txt_extract, List.drop_zero]
  simp [Instr.slice, run_underlying Tryz.underlying9, Instr.sliceBounds, run_sliceBound, (by omega : (0 : Int) ≤ k), hts, (by omega : (k : Int) ≤ (s.length : Int)), hex]
theorem slice_mid (s : List UInt8) (i n : Nat) (lo hi : Int) (hlo : lo = i) (hhi : hi = (i : Int) + n) (h : i + n ≤ s.length) (W : World) : (Instr.slice 9 (.string (txt s)) (some (.int .i64 lo)) (some (.int .i64 hi)) none).run Tryz.prog W = .ok (.string (txt ((s.drop i).take n))) W := by
  subst hlo hhi
  exact eslice s i n h W
end Go.Proofs.YtdfhidnhkeapbaaGreatDoor
