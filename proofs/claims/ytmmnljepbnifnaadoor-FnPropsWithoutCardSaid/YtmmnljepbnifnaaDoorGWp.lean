/- impl.WriteProps: with the empty prefix at any comments; with '# ' where there are none. -/
import Derived.Test.YtmmnljepbnifnaaDoorGWr
import Derived.Test.YtmmnljepbnifnaaDoorGGiv
namespace Go.Proofs.YtmmnljepbnifnaaDoor
open Go.RowKit U8
open Go.Lib hiding intOf

theorem pr_set6 {B b m : Nat} {s1 s2 c s3 : Value} {kv : KV} {w : World} (x : Value) (h : Pr B b m s1 s2 c s3 kv w) : Pr B b m s1 s2 c x kv (w.setCell ⟨b, 6, none⟩ x) := by
  obtain ⟨h1, h2, h3, vk, h4, h5⟩ := h
  have hbm : m ≠ b := by
    intro e
    subst e
    obtain ⟨_, es, cl, h6, _⟩ := h3
    rw [h6] at h4; cases h4
  refine ⟨h1, h2, h3.of (Below.heap_setCell _ _ _ _ (by simpa using hbm)), vk, ?_, owns_of h5 fun g hg => Below.heap_setCell _ _ _ _ ?_⟩
  · simp [World.setCell, Array.getElem?_modify, h4]
  · intro e
    simp at e
    subst e
    exact own_ne_cells h5 h4 (by decide) hg
set_option maxHeartbeats 3200000 in
set_option maxRecDepth 100000 in
theorem wp_plain (ps : List PropA) (v : Value) (w : World) (hP : Px w v ps) (hc : ∀ p ∈ ps, p.c.length ≤ 2147483647 ∧ p.k ≠ []) (hn : (ps.map PropA.k).Nodup) (hl : ps.length ≤ 2147483647) (hz : ∀ p ∈ ps, p.k.length ≤ 100000 ∧ p.r.length ≤ 100000) (T : List UInt8) (hT : wrAll (ps.map fun p => (p.k, p.r)) = T) (hTl : T.length ≤ 140737488355328) (hW : Wt w) :
    Calls Tryd.prog 9 #[v, .string ⟨#[]⟩, .string ⟨#[]⟩, .int .i64 1] w fun e w' => e = .returned (.tuple #[.string (txt T), .int .i64 T.length]) ∧ Below w.heap.size w w' := by
  have cG := Lib.hid (given_any ps v w hP hc hn (by omega))
  go_enter Tryd.func9, Tryd.ntmps9
  go_wp2_with fail
  refine cG.out.mono ?_
  rintro e w1 ⟨b, m, cb, rfl, hpr, hic, hb⟩
  have hc6 := hpr.cells.2.2
  have f6 : w1.frozen? ⟨b, 6, none⟩ = false := by
    obtain ⟨_, _, _, vk, h4, _⟩ := hpr
    simp [World.frozen?, h4]
  have HP2 := Lib.hid (pr_set6 (.string ⟨#[]⟩) hpr)
  have hB2 : Below w.heap.size w (w1.setCell ⟨b, 6, none⟩ (.string ⟨#[]⟩)) := hb.setCell (p := ⟨b, 6, none⟩) hpr.1 _
  have HB2 := Lib.hid hB2
  have hsz : (w1.setCell ⟨b, 6, none⟩ (.string ⟨#[]⟩)).heap.size = w1.heap.size := by simp
  generalize hw2 : w1.setCell ⟨b, 6, none⟩ (.string ⟨#[]⟩) = w2 at *
  have cW := Lib.hid (wc_plain _ _ _ w2.heap.size _ _ _ _ (w2.alloc (.cells #[.pointer none, .slice none 0 0] 51)) w2 HP2.out (by rw [hT]; exact hTl) (by rw [List.length_map]; exact hl) (by intro q hq; obtain ⟨p, hp, rfl⟩ := List.mem_map.1 hq; exact hz p hp) ((Below.refl _ _).alloc (Nat.le_refl _) _) (bld_fresh w2.heap.size w2 (Nat.le_refl _)) (hW.below HB2.out))
  rw [hT, hsz] at cW
  clear hpr hic hb
  go_wp2_with fail
  refine cW.out.mono ?_
  rintro e w3 ⟨rfl, hbl, hb3⟩
  have cS := Lib.hid (bld_string _ _ T w3 hbl (by have := hb3.size; omega))
  have hs2 := HB2.out.size
  have HB3 := Lib.hid (HB2.out.trans (hb3.mono (by omega)))
  have hs3 := hb3.size
  clear hbl hb3 cW
  go_wp2_with fail
  refine cS.out.mono ?_
  rintro e w4 ⟨rfl, _, hb4, _⟩
  have HB4 := Lib.hid (HB3.out.trans (hb4.mono (by omega)))
  clear hb4
  go_wp2
  go_ret2
  exact ⟨rfl, HB4.out⟩
set_option maxHeartbeats 3200000 in
set_option maxRecDepth 100000 in
theorem wp_hash (ps : List PropA) (v : Value) (w : World) (hP : Px w v ps) (hc : ∀ p ∈ ps, p.c.length ≤ 2147483647 ∧ p.k ≠ []) (hn : (ps.map PropA.k).Nodup) (hl : ps.length ≤ 2147483647) (hz : ∀ p ∈ ps, p.k.length ≤ 100000 ∧ p.r.length ≤ 100000) (T : List UInt8) (hT : wrAll (ps.map fun p => (p.k, p.r)) = T) (hTl : T.length ≤ 140737488355328) (hW : Wt w) (hnc : ∀ p ∈ ps, p.c = []) :
    Calls Tryd.prog 9 #[v, .string ⟨#[35, 32]⟩, .string ⟨#[]⟩, .int .i64 1] w fun e w' => e = .returned (.tuple #[.string (txt T), .int .i64 T.length]) ∧ Below w.heap.size w w' := by
  have cG := Lib.hid (given_any ps v w hP hc hn (by omega))
  go_enter Tryd.func9, Tryd.ntmps9
  go_wp2_with fail
  refine cG.out.mono ?_
  rintro e w1 ⟨b, m, cb, rfl, hpr, hic, hb⟩
  have hc6 := hpr.cells.2.2
  have f6 : w1.frozen? ⟨b, 6, none⟩ = false := by
    obtain ⟨_, _, _, vk, h4, _⟩ := hpr
    simp [World.frozen?, h4]
  have hck : cK ps = [] := by unfold cK; rw [List.filter_eq_nil_iff.2 (fun p hp => by simp [hnc p hp])]; rfl
  rw [hck] at hic
  obtain ⟨cl, hcb⟩ := hic.none
  have hcb2 : (w1.setCell ⟨b, 6, none⟩ (.string ⟨#[]⟩)).heap[cb]? = some (.map #[] cl) := by
    refine (Below.heap_setCell _ _ _ _ ?_).trans hcb
    intro e
    simp at e
    subst e
    obtain ⟨_, _, _, vk, h4, _⟩ := hpr
    rw [hcb] at h4; cases h4
  have HP2 := Lib.hid (pr_set6 (.string ⟨#[]⟩) hpr)
  have hB2 : Below w.heap.size w (w1.setCell ⟨b, 6, none⟩ (.string ⟨#[]⟩)) := hb.setCell (p := ⟨b, 6, none⟩) hpr.1 _
  have HB2 := Lib.hid hB2
  have hsz : (w1.setCell ⟨b, 6, none⟩ (.string ⟨#[]⟩)).heap.size = w1.heap.size := by simp
  generalize hw2 : w1.setCell ⟨b, 6, none⟩ (.string ⟨#[]⟩) = w2 at *
  have cW := Lib.hid (wc_hash _ _ _ w2.heap.size cb cl _ _ _ (w2.alloc (.cells #[.pointer none, .slice none 0 0] 51)) w2 HP2.out (by rw [hT]; exact hTl) (by rw [List.length_map]; exact hl) (by intro q hq; obtain ⟨p, hp, rfl⟩ := List.mem_map.1 hq; exact hz p hp) ((Below.refl _ _).alloc (Nat.le_refl _) _) (bld_fresh w2.heap.size w2 (Nat.le_refl _)) (hW.below HB2.out) hcb2)
  rw [hT, hsz] at cW
  clear hpr hic hb hcb hcb2
  go_wp2_with fail
  refine cW.out.mono ?_
  rintro e w3 ⟨rfl, hbl, hb3⟩
  have cS := Lib.hid (bld_string _ _ T w3 hbl (by have := hb3.size; omega))
  have hs2 := HB2.out.size
  have HB3 := Lib.hid (HB2.out.trans (hb3.mono (by omega)))
  have hs3 := hb3.size
  clear hbl hb3 cW
  go_wp2_with fail
  refine cS.out.mono ?_
  rintro e w4 ⟨rfl, _, hb4, _⟩
  have HB4 := Lib.hid (HB3.out.trans (hb4.mono (by omega)))
  clear hb4
  go_wp2
  go_ret2
  exact ⟨rfl, HB4.out⟩
end Go.Proofs.YtmmnljepbnifnaaDoor
