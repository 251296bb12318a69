/- The lexer's errorf and emit. -/
import Derived.Test.YtdfhidnhkeapbaaGreatDoorLxApp
namespace Go.Proofs.YtdfhidnhkeapbaaGreatDoor
open Go.RowKit U8
open Go.Lib hiding intOf

theorem liCells_len (its : List LI) : (its.flatMap liCells).length = its.length * 3 := by
  induction its with
  | nil => rfl
  | cons p ps ih => rw [List.flatMap_cons, List.length_append, ih, List.length_cons]; simp [liCells]; omega
/-- The world behind the items' append: what it leaves of the lexer. -/
theorem emit_world {w0 : World} {b : Nat} {s rest : List UInt8} {wd : Nat} {acc : List Nat} {its : List LI} {w W w4 : World} {ao : Option Addr} {cap g cp2 : Nat} (i : LI) (HL : Lx w0 b s rest wd acc its w) (c7 : w.cell? ⟨b, 7, none⟩ = some (.slice ao its.length cap))
    (hW : Below w0.heap.size w W) (hWk : ∀ k, k < w.heap.size → W.heap[k]? = w.heap[k]?) (hWs : w.heap.size ≤ W.heap.size) (hown : w4.ownsRow w0.heap.size 138 3 (.slice (some ⟨g, 0, none⟩) (its.length + 1) cp2) (its.length + 1) (its.flatMap liCells ++ liCells i))
    (hgrow : W.grownBy w4 (Value.slice ao its.length cap).ownBlock) (hbase : w0.heap.size ≤ W.heap.size) :
    Lx w0 b s rest wd acc (its ++ [i]) (w4.setCell ⟨b, 7, none⟩ (.slice (some ⟨g, 0, none⟩) (its.length + 1) cp2)) ∧ w4.heap[b]? = w.heap[b]? := by
  have hr : w.ownsRow w0.heap.size 138 3 (.slice ao its.length cap) its.length (its.flatMap liCells) := by
    obtain ⟨_, _, _, q, st, z1, z2, vr, vi, _, _, hb, _, hi⟩ := HL
    have : vi = .slice ao its.length cap := by simpa [World.cell?, hb] using c7
    rw [← this]; exact hi
  have hlb := HL.lt
  have hk : ∀ k, k < w.heap.size → (Value.slice ao its.length cap).ownBlock ≠ some k → w4.heap[k]? = w.heap[k]? := fun k hk hne => (hgrow.block k (by omega) (fun e => hne e.symm)).trans (hWk k hk)
  have hB : Below w0.heap.size w w4 := hW.grown hgrow hbase (fun k hk => (hr.lt k hk).1)
  refine ⟨HL.app7 c7 hB hk ?_, hk b hlb ?_⟩
  · rw [List.length_append, List.flatMap_append, List.flatMap_singleton]; exact hown
  · obtain ⟨_, _, _, q, st, z1, z2, vr, vi, _, _, hb, _, hi⟩ := HL
    exact own_ne_type hr hb (by decide)
theorem lx_cell {w w4 : World} {b i : Nat} {v : Value} (h : w.cell? ⟨b, i, none⟩ = some v) (hb : w4.heap[b]? = w.heap[b]?) : w4.cell? ⟨b, i, none⟩ = some v := by
  unfold World.cell? at h ⊢
  rw [hb]; exact h
theorem lx_free {w w4 : World} {b i : Nat} {q : Bool} (h : w.frozen? ⟨b, i, none⟩ = q) (hb : w4.heap[b]? = w.heap[b]?) : w4.frozen? ⟨b, i, none⟩ = q := by
  unfold World.frozen? at h ⊢
  rw [hb]; exact h
set_option maxHeartbeats 1600000 in
set_option maxRecDepth 100000 in
theorem errorf_any (w0 : World) (b : Nat) (s rest x : List UInt8) (wd : Nat) (acc : List Nat) (its : List LI) (w : World) (h : Lx w0 b s rest wd acc its w) (hl : its.length ≤ 1000000) :
    Calls Tryz.prog 139 #[.pointer (some ⟨b, 0, none⟩), .string (txt x)] w fun e w' => e = .returned .nilFunc ∧ ∃ p, Lx w0 b s rest wd acc (its ++ [⟨0, p, x⟩]) w' := by
  obtain ⟨i0, hi, hz0, hz1, hz2⟩ := info_parts Tryz.infoItem
  have HL := Lib.hid h
  have hsz := h.below0.size
  obtain ⟨q, st, z1, z2, vr, vi, hq2, _, c0, _, c2, c3, c4, _, c7, f, _, hr⟩ := h.vals
  have hlb := h.lt
  have f7 := f 7
  obtain ⟨ao, cap, hvr⟩ := owns_slice hr
  subst hvr
  have HA : Hid (Below w0.heap.size w (w.drew.alloc (.cells #[.int .i64 0, .int .i64 z1, .string (txt x)] 138))) := (Below.refl _ w).drew.alloc hsz _
  have HOE : Hid ((w.drew.alloc (.cells #[.int .i64 0, .int .i64 z1, .string (txt x)] 138)).ownsRow w0.heap.size 138 3 (.slice ao its.length cap) its.length (its.flatMap liCells)) := (owns_keep (w' := w.drew) hr fun _ _ => rfl).alloc _
  have HNEW := Lib.hid (World.news_of_block (heap_alloc_new w.drew (.cells #[.int .i64 0, .int .i64 z1, .string (txt x)] 138)))
  have HWK : Hid (∀ k, k < w.heap.size → (w.drew.alloc (.cells #[.int .i64 0, .int .i64 z1, .string (txt x)] 138)).heap[k]? = w.heap[k]?) := fun k hk => al_old w.drew _ k hk
  have HWS : Hid (w.heap.size ≤ (w.drew.alloc (.cells #[.int .i64 0, .int .i64 z1, .string (txt x)] 138)).heap.size) := HA.out.size |> fun _ => by show w.heap.size ≤ (Array.push _ _).size; rw [Array.size_push]; exact Nat.le_succ _
  have C7 := Lib.hid c7
  have F7 := Lib.hid f7
  have HBS : Hid (w0.heap.size ≤ (w.drew.alloc (.cells #[.int .i64 0, .int .i64 z1, .string (txt x)] 138)).heap.size) := Nat.le_trans hsz HWS.out
  clear h hq2 hr f c0 c2 c4
  go_enter Tryz.func139, Tryz.ntmps139
  go_upto_region 1 with fail
  go_region_law (refine step_append_lies _ rfl (.tmp 9) (.tmp 16) 131 rfl w0.heap.size 138 i0 _ 3 32 Tryz.underlying131 hi hz0 hz1 hz2 rfl (by decide) (.slice ao its.length cap) its.length (its.flatMap liCells) (by simp [Act.eval]) HOE.out ⟨w.heap.size, 0, none⟩ 1 1 _ (by simp [Act.eval]) rfl HNEW.out (by intro u hu; simp at hu; rcases hu with rfl | rfl | rfl <;> rfl) (by decide) (by unfold maxLen; omega) (by omega) HBS.out _ rfl ?_; intro ga cp2 w4 hown' hgrow hor hlt2; obtain ⟨HF, hb4⟩ := emit_world ⟨0, z1, x⟩ HL.out C7.out HA.out HWK.out HWS.out hown' hgrow HBS.out; have e7 := lx_cell C7.out hb4; have g7 := lx_free F7.out hb4; have HF' := Lib.hid HF; clear hown' hgrow hor hlt2 HF hb4)
  all_goals
    go_wp2
    go_ret
    exact ⟨rfl, z1, HF'.out⟩
end Go.Proofs.YtdfhidnhkeapbaaGreatDoor
