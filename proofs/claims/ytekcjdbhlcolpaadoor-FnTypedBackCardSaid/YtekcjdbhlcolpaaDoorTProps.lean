/- Properties of one key: how they are made, set, read. -/
import Derived.Test.YtekcjdbhlcolpaaDoorTBase
namespace Go.Proofs.YtekcjdbhlcolpaaDoor
open Go.RowKit U8
open Go.Lib hiding intOf

theorem al_old (W : World) (o : Obj) (k : Nat) (h : k < W.heap.size) : (W.alloc o).heap[k]? = W.heap[k]? := by
  show (W.heap.push o)[k]? = W.heap[k]?
  rw [Array.getElem?_push, if_neg (by omega)]
theorem al_new (W : World) (o : Obj) (k : Nat) (h : k = W.heap.size) : (W.alloc o).heap[k]? = some o := by
  subst h
  show (W.heap.push o)[W.heap.size]? = some o
  simp
theorem newProps (w : World) :
    Calls Tryd.prog 34 #[] w fun e w' => e = .returned (.pointer (some ⟨w.heap.size + 3, 0, none⟩)) ∧
      w'.heap[w.heap.size]? = some (.map #[] 0) ∧
      w'.heap[w.heap.size + 2]? = some (.cells #[] 9 (0, 0)) ∧
      w'.heap[w.heap.size + 3]? = some (.cells #[.string ⟨#[36, 123]⟩, .string ⟨#[125]⟩, .bool false, .map (some w.heap.size), .map (some (w.heap.size + 1)), .slice (some ⟨w.heap.size + 2, 0, none⟩) 0 0, .string ⟨#[]⟩] 51 (0, 0)) ∧
      Below w.heap.size w w' ∧ w'.heap.size = w.heap.size + 4 := by
  have hmm := @run_makeMap Tryd.prog
  go_enter Tryd.func34, Tryd.ntmps34
  go_wp2
  go_ret
  refine ⟨rfl, ?_, ?_, ?_, ?_, by simp⟩
  · rw [al_old _ _ _ (by simp; omega), al_old _ _ _ (by simp; omega), al_old _ _ _ (by simp), al_new w _ _ rfl]
  · rw [al_old _ _ _ (by simp), al_new _ _ _ (by simp)]
  · rw [al_new _ _ _ (by simp)]
  · have b1 := (Below.refl w.heap.size w).alloc (Nat.le_refl _) (.map #[] 0)
    have b2 := b1.alloc b1.size (.map #[] 0)
    have b3 := b2.alloc b2.size (.cells #[] 9)
    exact b3.alloc b3.size _

theorem get_none (b m n : Nat) (k : ByteArray) (w : World) (c2 : w.cell? ⟨b, 2, none⟩ = some (.bool true)) (c3 : w.cell? ⟨b, 3, none⟩ = some (.map (some m))) (hm : w.heap[m]? = some (.map #[] n)) :
    Calls Tryd.prog 37 #[.pointer (some ⟨b, 0, none⟩), .string k] w fun e w' => e = .returned (.tuple #[.string ⟨#[]⟩, .bool false]) ∧ w' = w := by
  have hlk := run_lookup_empty (P := Tryd.prog) 48 9 9 m n k (.string ⟨#[]⟩) Tryd.underlying48 Tryd.underlying9 (by kernel_rfl) hm
  go_enter Tryd.func37, Tryd.ntmps37
  go_wp2
  go_ret2
  exact ⟨rfl, rfl⟩
theorem get_one (b m n born : Nat) (k v : ByteArray) (w : World) (c2 : w.cell? ⟨b, 2, none⟩ = some (.bool true)) (c3 : w.cell? ⟨b, 3, none⟩ = some (.map (some m))) (hm : w.heap[m]? = some (.map #[{ key := .string k, val := .string v, born := born }] n)) :
    Calls Tryd.prog 37 #[.pointer (some ⟨b, 0, none⟩), .string k] w fun e w' => e = .returned (.tuple #[.string v, .bool true]) ∧ w' = w := by
  have hlk := run_lookup_one (P := Tryd.prog) 48 9 9 m n born k (.string v) Tryd.underlying48 Tryd.underlying9 hm
  go_enter Tryd.func37, Tryd.ntmps37
  go_wp2
  go_ret2
  exact ⟨rfl, rfl⟩

set_option maxHeartbeats 1600000 in
set_option maxRecDepth 100000 in
theorem set_first (B b m kb : Nat) (s1 s2 s3 c : Value) (v : ByteArray) (w : World) (hB : B ≤ b) (hBm : B ≤ m) (hbm : b ≠ m) (hmk : m ≠ kb)
    (ho : w.heap[b]? = some (.cells #[s1, s2, .bool true, .map (some m), c, .slice (some ⟨kb, 0, none⟩) 0 0, s3] 51 (0, 0)))
    (hm : w.heap[m]? = some (.map #[] 0)) (hk : w.heap[kb]? = some (.cells #[] 9 (0, 0))) :
    Calls Tryd.prog 35 #[.pointer (some ⟨b, 0, none⟩), .string ⟨#[107]⟩, .string v] w fun e w' => e = .returned (.tuple #[.string ⟨#[]⟩, .bool false, .nilIface]) ∧
      w'.cell? ⟨b, 2, none⟩ = some (.bool true) ∧ w'.cell? ⟨b, 3, none⟩ = some (.map (some m)) ∧ w'.heap[m]? = some (.map #[{ key := .string ⟨#[107]⟩, val := .string v, born := 0 }] 1) ∧ Below B w w' := by
  have c2 : w.cell? ⟨b, 2, none⟩ = some (.bool true) := by simp [World.cell?, ho]
  have c3 : w.cell? ⟨b, 3, none⟩ = some (.map (some m)) := by simp [World.cell?, ho]
  have hlb : b < w.heap.size := (Array.getElem?_eq_some_iff.1 ho).1
  have hlm : m < w.heap.size := (Array.getElem?_eq_some_iff.1 hm).1
  have hlk : kb < w.heap.size := (Array.getElem?_eq_some_iff.1 hk).1
  have hmu := run_mapUpdate_first (P := Tryd.prog) w 48 9 9 m 0 ⟨#[107]⟩ (.string v) Tryd.underlying48 Tryd.underlying9 hm
  have hbw := below_set (Below.refl B w) m (.map #[{ key := .string ⟨#[107]⟩, val := .string v, born := 0 }] (0 + 1)) hBm
  have hS := MapKept.heap_set (o' := .map #[{ key := .string ⟨#[107]⟩, val := .string v, born := 0 }] (0 + 1)) hm
  have hsz : ({ w with heap := w.heap.setIfInBounds m (.map #[{ key := .string ⟨#[107]⟩, val := .string v, born := 0 }] (0 + 1)) } : World).heap.size = w.heap.size := by simp
  obtain ⟨w2, hw2⟩ : ∃ w2, ({ w with heap := w.heap.setIfInBounds m (.map #[{ key := .string ⟨#[107]⟩, val := .string v, born := 0 }] (0 + 1)) } : World) = w2 := ⟨_, rfl⟩
  have e2 : w.heap.setIfInBounds m (.map #[{ key := .string ⟨#[107]⟩, val := .string v, born := 0 }] (0 + 1)) = w2.heap := by rw [← hw2]
  rw [hw2] at hmu hbw hsz
  rw [e2] at hS
  have hm2 := hS.1
  have ho2 := (hS.2 b hbm).trans ho
  have hk2 := (hS.2 kb (fun e => hmk e.symm)).trans hk
  clear hS e2 hw2
  have d5 : w2.cell? ⟨b, 5, none⟩ = some (.slice (some ⟨kb, 0, none⟩) 0 0) := by simp [World.cell?, ho2]
  have f5 : w2.frozen? ⟨b, 5, none⟩ = false := by simp [World.frozen?, ho2]
  have e2c : w2.cell? ⟨b, 2, none⟩ = some (.bool true) := by simp [World.cell?, ho2]
  have e3c : w2.cell? ⟨b, 3, none⟩ = some (.map (some m)) := by simp [World.cell?, ho2]
  go_enter Tryd.func35, Tryd.ntmps35
  go_wp2_with fail
  refine (get_none b m 0 _ w c2 c3 hm).mono ?_
  rintro e w1 ⟨rfl, hw⟩
  obtain rfl := hw.symm
  go_wp2
  go_ret3
  have hfin : ∀ (V : Value) (X Y : Obj), ((((w2.setCell ⟨b, 5, none⟩ V).alloc X).alloc Y).drew).cell? ⟨b, 2, none⟩ = some (.bool true) ∧ ((((w2.setCell ⟨b, 5, none⟩ V).alloc X).alloc Y).drew).cell? ⟨b, 3, none⟩ = some (.map (some m)) ∧
      ((((w2.setCell ⟨b, 5, none⟩ V).alloc X).alloc Y).drew).heap[m]? = some (.map #[{ key := .string ⟨#[107]⟩, val := .string v, born := 0 }] 1) ∧ Below B w ((((w2.setCell ⟨b, 5, none⟩ V).alloc X).alloc Y).drew) := by
    intro V X Y
    have hss : (w2.setCell ⟨b, 5, none⟩ V).heap.size = w.heap.size := by rw [← hsz]; simp
    have k1 := (Below.refl (w2.setCell ⟨b, 5, none⟩ V).heap.size (w2.setCell ⟨b, 5, none⟩ V)).alloc (Nat.le_refl _) X
    have k2 := (k1.alloc k1.size Y).drew
    refine ⟨?_, ?_, ?_, ?_⟩
    · rw [k2.cell (by rw [hss]; exact hlb), World.cell?_setCell_other _ _ _ _ (by simp)]; exact e2c
    · rw [k2.cell (by rw [hss]; exact hlb), World.cell?_setCell_other _ _ _ _ (by simp)]; exact e3c
    · rw [k2.block m (by rw [hss]; exact hlm), Below.heap_setCell _ _ _ _ (fun e => hbm e.symm)]; exact hm2
    · exact (hbw.setCell (p := ⟨b, 5, none⟩) hB V).trans (k2.mono (by rw [hss]; omega))
  exact ⟨rfl, hfin _ _ _⟩

/-- What the properties of one key are, in memory. -/
def Pv (b m : Nat) (v : ByteArray) (W : World) : Prop := W.cell? ⟨b, 2, none⟩ = some (.bool true) ∧ W.cell? ⟨b, 3, none⟩ = some (.map (some m)) ∧ W.heap[m]? = some (.map #[{ key := .string ⟨#[107]⟩, val := .string v, born := 0 }] 1)

set_option maxHeartbeats 1600000 in
set_option maxRecDepth 100000 in
theorem valued_yes (v : ByteArray) (w : World) :
    Calls Tryd.prog 26 #[.string v, .bool true] w fun e w' => ∃ b m, e = .returned (.pointer (some ⟨b, 0, none⟩)) ∧ Pv b m v w' ∧ Below w.heap.size w w' := by
  go_enter Tryd.func26, Tryd.ntmps26
  go_wp2_with fail
  refine (newProps w).mono ?_
  rintro e w1 ⟨rfl, hm, hk, ho, hb, hsz⟩
  have c2 : w1.cell? ⟨w.heap.size + 3, 2, none⟩ = some (.bool false) := by simp [World.cell?, ho]
  have f2 : w1.frozen? ⟨w.heap.size + 3, 2, none⟩ = false := by simp [World.frozen?, ho]
  have hset := Lib.hid (set_first w.heap.size (w.heap.size + 3) w.heap.size (w.heap.size + 2) (.string ⟨#[36, 123]⟩) (.string ⟨#[125]⟩) (.string ⟨#[]⟩) (.map (some (w.heap.size + 1))) v (w1.setCell ⟨w.heap.size + 3, 2, none⟩ (.bool true)) (by omega) (by omega) (by omega) (by omega)
    (by simp [World.setCell, Array.getElem?_modify, ho]) (by rw [Below.heap_setCell _ _ _ _ (by simp)]; exact hm) (by rw [Below.heap_setCell _ _ _ _ (by simp)]; exact hk))
  have hbs := hb.setCell (p := ⟨w.heap.size + 3, 2, none⟩) (by simp) (.bool true)
  clear hm hk ho hb hsz
  go_wp2_with fail
  refine hset.out.mono ?_
  rintro e w2 ⟨rfl, h1, h2, h3, h4⟩
  go_wp2
  go_ret
  exact ⟨_, _, rfl, ⟨h1, h2, h3⟩, hbs.trans h4⟩

end Go.Proofs.YtekcjdbhlcolpaaDoor
