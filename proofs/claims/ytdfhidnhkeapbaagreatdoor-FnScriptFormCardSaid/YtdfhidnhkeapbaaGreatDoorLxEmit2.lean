/- The lexer's emit. -/
import Derived.Test.YtdfhidnhkeapbaaGreatDoorLxEmit
namespace Go.Proofs.YtdfhidnhkeapbaaGreatDoor
open Go.RowKit U8
open Go.Lib hiding intOf

set_option maxHeartbeats 1600000 in
set_option maxRecDepth 100000 in
theorem emit_any (w0 : World) (b k : Nat) (s rest : List UInt8) (wd : Nat) (acc : List Nat) (its : List LI) (w : World) (h : Lx w0 b s rest wd acc its w) (hl : its.length ≤ 1000000) :
    Calls Tryz.prog 116 #[.pointer (some ⟨b, 0, none⟩), .int .i64 k] w fun e w' => e = .returned (.tuple #[]) ∧ ∃ p, Lx w0 b s rest wd [] (its ++ [⟨k, p, encA acc⟩]) w' := by
  obtain ⟨i0, hi, hz0, hz1, hz2⟩ := info_parts Tryz.infoItem
  have HL := Lib.hid h
  have hsz := h.below0.size
  obtain ⟨q, st, z1, z2, vr, vi, hq2, _, c0, _, c2, c3, c4, c6, c7, f, hr, hit⟩ := h.vals
  have hlb := h.lt
  obtain ⟨ro, rcap, hvr⟩ := owns_slice hr
  subst hvr
  have hcv2 := run_runes_txt (w := w.drew) acc (owns_keep hr fun _ _ => rfl)
  have hcv3 : ∀ o, (convert 114 9 (.slice ro acc.length rcap)).run Tryz.prog (w.alloc o).drew = .ok (.string (txt (encA acc))) (w.alloc o).drew := fun o => run_runes_txt (w := (w.alloc o).drew) acc (owns_keep (hr.alloc o) fun _ _ => rfl)
  clear h hq2 hr hit f c0 c2 c4
  go_enter Tryz.func116, Tryz.ntmps116
  go_wp2
  go_region
  go_upto_region 1 with fail
  have HL1 : Hid (Lx w0 b s rest wd acc its (w.alloc (.cells #[.int .i64 k, .int .i64 z1, .string (txt (encA acc))] 138)).drew) := (HL.out.below ((Below.refl _ w).alloc (Nat.le_refl _) _)).drew
  have hG : (w.alloc (.cells #[.int .i64 k, .int .i64 z1, .string (txt (encA acc))] 138)).drew.heap[w.heap.size]? = some (.cells #[.int .i64 k, .int .i64 z1, .string (txt (encA acc))] 138 (0, 0)) := heap_alloc_new w _
  generalize (w.alloc (.cells #[.int .i64 k, .int .i64 z1, .string (txt (encA acc))] 138)).drew = w1 at *
  generalize w.heap.size = G at *
  clear hcv2 hcv3 c3 c6 c7 HL hlb hsz
  have hsz := HL1.out.below0.size
  obtain ⟨q, st, z3, z4, vr, vi, hq2, _, c0, _, c2, c3, c4, c6, c7, f, hr, hit⟩ := HL1.out.vals
  have hlb := HL1.out.lt
  have f7 := f 7
  obtain ⟨ao, cap, hvi⟩ := owns_slice hit
  subst hvi
  have g0 : w1.cell? ⟨G, 0, none⟩ = some (.int .i64 k) := by simp [World.cell?, hG]
  have g1 : w1.cell? ⟨G, 1, none⟩ = some (.int .i64 z1) := by simp [World.cell?, hG]
  have g2 : w1.cell? ⟨G, 2, none⟩ = some (.string (txt (encA acc))) := by simp [World.cell?, hG]
  have HA : Hid (Below w0.heap.size w1 (w1.drew.alloc (.cells #[.int .i64 k, .int .i64 z1, .string (txt (encA acc))] 138))) := (Below.refl _ w1).drew.alloc hsz _
  have HOE : Hid ((w1.drew.alloc (.cells #[.int .i64 k, .int .i64 z1, .string (txt (encA acc))] 138)).ownsRow w0.heap.size 138 3 (.slice ao its.length cap) its.length (its.flatMap liCells)) := (owns_keep (w' := w1.drew) hit fun _ _ => rfl).alloc _
  have HNEW := Lib.hid (World.news_of_block (heap_alloc_new w1.drew (.cells #[.int .i64 k, .int .i64 z1, .string (txt (encA acc))] 138)))
  have HWK : Hid (∀ k', k' < w1.heap.size → (w1.drew.alloc (.cells #[.int .i64 k, .int .i64 z1, .string (txt (encA acc))] 138)).heap[k']? = w1.heap[k']?) := fun k' hk' => al_old w1.drew _ k' hk'
  have HWS : Hid (w1.heap.size ≤ (w1.drew.alloc (.cells #[.int .i64 k, .int .i64 z1, .string (txt (encA acc))] 138)).heap.size) := by show w1.heap.size ≤ (Array.push _ _).size; rw [Array.size_push]; exact Nat.le_succ _
  have C7 := Lib.hid c7
  have F7 := Lib.hid f7
  have HBS : Hid (w0.heap.size ≤ (w1.drew.alloc (.cells #[.int .i64 k, .int .i64 z1, .string (txt (encA acc))] 138)).heap.size) := Nat.le_trans hsz HWS.out
  clear hq2 hr hit f c0 c2 c3 c4 c6 hG
  go_cut [4] (fun sv W => sv = .pointer (some ⟨G, 0, none⟩) ∧ Hid (∃ p, Lx w0 b s rest wd acc (its ++ [⟨k, p, encA acc⟩]) W))
  case first =>
    as_aux_lemma =>
      go_region_law (refine step_append_lies _ rfl (.tmp 20) (.tmp 22) 131 rfl w0.heap.size 138 i0 _ 3 32 Tryz.underlying131 hi hz0 hz1 hz2 rfl (by decide) (.slice ao its.length cap) its.length (its.flatMap liCells) (by simp [Act.eval]) HOE.out ⟨w1.heap.size, 0, none⟩ 1 1 _ (by simp [Act.eval]) rfl HNEW.out (by intro u hu; simp at hu; rcases hu with rfl | rfl | rfl <;> rfl) (by decide) (by unfold maxLen; omega) (by omega) HBS.out _ rfl ?_; intro ga cp2 w4 hown' hgrow hor hlt2; obtain ⟨HF, hb4⟩ := emit_world ⟨k, z1, encA acc⟩ HL1.out C7.out HA.out HWK.out HWS.out hown' hgrow HBS.out; have e7 := lx_cell C7.out hb4; have g7 := lx_free F7.out hb4; have HF' := Lib.hid HF; clear hown' hgrow hor hlt2 HF hb4)
      all_goals
        go_wp2
        go_meet
        exact ⟨rfl, z1, HF'.out⟩
  case rest =>
    as_aux_lemma =>
      clear HA HOE HNEW HWK HWS C7 F7 HBS HL1 c7 f7 g0 g1 g2
      obtain ⟨rfl, p, HLp⟩ := hcut
      have HL2 := Lib.hid HLp
      clear HLp
      obtain ⟨q, st, z3, z4, vr, vi, hq2, _, c0, _, c2, c3, c4, c6, c7, f, hr, hit⟩ := HL2.out.vals
      obtain ⟨ro, rcap, hvr⟩ := owns_slice hr
      subst hvr
      have f3 := f 3
      have f6 := f 6
      have HZ : Hid (∀ x, (wc.setCell ⟨b, 3, none⟩ x).ownsRow w0.heap.size 21 1 (.slice ro 0 rcap) 0 (cells [])) := by
        show ∀ _, _
        intro x
        obtain ⟨q, st, z1, z2, vr, vi, _, _, hb, hr2, _⟩ := HL2.out.2.2.2
        have hv : vr = .slice ro acc.length rcap := by simpa [World.cell?, hb] using c6
        subst hv
        refine ⟨rfl, ?_⟩
        rcases hr2.2 with ⟨h0, h1⟩ | ⟨g, cap, cur, h0, hg, hh, _, hc, hcs, _⟩
        · simp at h0
          obtain ⟨rfl, _, rfl⟩ := h0
          exact .inl ⟨rfl, rfl⟩
        · cases h0
          refine .inr ⟨g, rcap, cur, rfl, hg, (Below.heap_setCell _ _ _ _ (fun e => ?_)).trans hh, Nat.zero_le _, hc, hcs, by simp [cells]⟩
          exact own_ne_type hr2 hb (by decide) (congrArg some e)
      have HL3 : Hid (∀ x : Int, Lx w0 b s rest wd acc (its ++ [⟨k, p, encA acc⟩]) (wc.setCell ⟨b, 3, none⟩ (.int .i64 x))) := fun x => HL2.out.set3 x
      clear hq2 hr hit f c0 c4 c7 HL2
      have C6 := Lib.hid c6
      go_wp2
      go_end0
      refine ⟨rfl, p, (HL3.out _).app6 (acc2 := []) (vr := .slice ro acc.length rcap) ?_ (Below.refl _ _) (fun _ _ _ => rfl) (HZ.out _)⟩
      rw [World.cell?_setCell_other _ _ _ _ (by intro e; cases e)]
      exact C6.out
end Go.Proofs.YtdfhidnhkeapbaaGreatDoor
