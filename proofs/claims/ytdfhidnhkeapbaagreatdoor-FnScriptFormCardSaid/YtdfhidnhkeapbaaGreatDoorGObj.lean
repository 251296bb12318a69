/- Properties of any number of keys: how they are made, set, read; their text. -/
import Derived.Test.YtdfhidnhkeapbaaGreatDoorGMap
namespace Go.Proofs.YtdfhidnhkeapbaaGreatDoor
open Go.RowKit U8
open Go.Lib hiding intOf

theorem al_old (W : World) (o : Obj) (k : Nat) (h : k < W.heap.size) : (W.alloc o).heap[k]? = W.heap[k]? := by
  show (W.heap.push o)[k]? = W.heap[k]?
  rw [Array.getElem?_push, if_neg (by omega)]
theorem al_new (W : World) (o : Obj) (k : Nat) (h : k = W.heap.size) : (W.alloc o).heap[k]? = some o := by
  subst h
  show (W.heap.push o)[W.heap.size]? = some o
  simp
theorem newProps (w : World) :
    Calls Tryz.prog 29 #[] w fun e w' => e = .returned (.pointer (some ⟨w.heap.size + 3, 0, none⟩)) ∧
      w'.heap[w.heap.size]? = some (.map #[] 0) ∧
      w'.heap[w.heap.size + 2]? = some (.cells #[] 9 (0, 0)) ∧
      w'.heap[w.heap.size + 3]? = some (.cells #[.string ⟨#[36, 123]⟩, .string ⟨#[125]⟩, .bool false, .map (some w.heap.size), .map (some (w.heap.size + 1)), .slice (some ⟨w.heap.size + 2, 0, none⟩) 0 0, .string ⟨#[]⟩] 63 (0, 0)) ∧
      Below w.heap.size w w' ∧ w'.heap.size = w.heap.size + 4 := by
  have hmm := @run_makeMap Tryz.prog
  go_enter Tryz.func29, Tryz.ntmps29
  go_wp2
  go_ret
  refine ⟨rfl, ?_, ?_, ?_, ?_, by simp⟩
  · rw [al_old _ _ _ (by simp; omega), al_old _ _ _ (by simp; omega), al_old _ _ _ (by simp), al_new w _ _ rfl]
  · rw [al_old _ _ _ (by simp), al_new _ _ _ (by simp)]
  · rw [al_new _ _ _ (by simp)]
  · have b1 := (Below.refl w.heap.size w).alloc (Nat.le_refl _) (.map #[] 0)
    have b2 := b1.alloc b1.size (.map #[] 0)
    have b3 := b2.alloc b2.size (.cells #[] 9)
    exact b3.alloc b3.size _


abbrev KV := List (List UInt8 × List UInt8)
def keysV (kv : KV) : List Value := strsV (kv.map Prod.fst)
/-- A set of properties without expansion, in memory: its own block b, its map m, its keys in their order. -/
def Pr (B b m : Nat) (s1 s2 c s3 : Value) (kv : KV) (W : World) : Prop :=
  B ≤ b ∧ B ≤ m ∧ IsM m kv W ∧ ∃ vk, W.heap[b]? = some (.cells #[s1, s2, .bool true, .map (some m), c, vk, s3] 63 (0, 0)) ∧ W.ownsRow B 9 1 vk kv.length (keysV kv)
theorem Pr.below {B b m : Nat} {s1 s2 c s3 : Value} {kv : KV} {w w' : World} (h : Pr B b m s1 s2 c s3 kv w) (hb : Below w.heap.size w w') : Pr B b m s1 s2 c s3 kv w' := by
  obtain ⟨h1, h2, h3, vk, h4, h5⟩ := h
  exact ⟨h1, h2, h3.below hb, vk, (hb.block b (Array.getElem?_eq_some_iff.1 h4).1).trans h4, owns_below h5 hb⟩
theorem Pr.cells {B b m : Nat} {s1 s2 c s3 : Value} {kv : KV} {w : World} (h : Pr B b m s1 s2 c s3 kv w) : w.cell? ⟨b, 2, none⟩ = some (.bool true) ∧ w.cell? ⟨b, 3, none⟩ = some (.map (some m)) ∧ w.cell? ⟨b, 6, none⟩ = some s3 := by
  obtain ⟨_, _, _, vk, h4, _⟩ := h
  exact ⟨by simp [World.cell?, h4], by simp [World.cell?, h4], by simp [World.cell?, h4]⟩
/-- A row of texts is no block of another make. -/
theorem own_ne_cells {B b n : Nat} {v : Value} {xs : List Value} {w : World} {x : Array Value} {T : TypeId} {fz : Nat × Nat} (h : w.ownsRow B 9 1 v n xs) (hb : w.heap[b]? = some (.cells x T fz)) (hT : T ≠ 9) : v.ownBlock ≠ some b := by
  intro e
  rcases h.2 with ⟨rfl, _⟩ | ⟨g, cap, cur, rfl, _, hg, _⟩
  · cases e
  · have : g = b := by simpa [Value.ownBlock] using e
    subst this
    rw [hg] at hb
    cases hb
    exact hT rfl
theorem own_ne_map {B b n : Nat} {v : Value} {xs : List Value} {w : World} {es : Array MapEntry} {cl : Nat} (h : w.ownsRow B 9 1 v n xs) (hb : w.heap[b]? = some (.map es cl)) : v.ownBlock ≠ some b := by
  intro e
  rcases h.2 with ⟨rfl, _⟩ | ⟨g, cap, cur, rfl, _, hg, _⟩
  · cases e
  · have : g = b := by simpa [Value.ownBlock] using e
    subst this
    rw [hg] at hb
    cases hb
theorem owns_of {B n : Nat} {v : Value} {xs : List Value} {w w' : World} (h : w.ownsRow B 9 1 v n xs) (hb : ∀ g, v.ownBlock = some g → w'.heap[g]? = w.heap[g]?) : w'.ownsRow B 9 1 v n xs := by
  refine ⟨h.1, ?_⟩
  rcases h.2 with h2 | ⟨g, cap, cur, rfl, hg, hh, r⟩
  · exact .inl h2
  · exact .inr ⟨g, cap, cur, rfl, hg, (hb g rfl).trans hh, r⟩
theorem get_hit (B b m : Nat) (s1 s2 c s3 : Value) (kv : KV) (k v : List UInt8) (w : World) (h : Pr B b m s1 s2 c s3 kv w) (hk : (k, v) ∈ kv) :
    Calls Tryz.prog 43 #[.pointer (some ⟨b, 0, none⟩), .string (txt k)] w fun e w' => e = .returned (.tuple #[.string (txt v), .bool true]) ∧ w' = w := by
  obtain ⟨c2, c3, _⟩ := h.cells
  have hlk := look_hit (P := Tryz.prog) 60 9 9 m kv k v Tryz.underlying60 Tryz.underlying9 h.2.2.1 hk
  clear h hk
  go_enter Tryz.func43, Tryz.ntmps43
  go_wp2
  go_ret2
  exact ⟨rfl, rfl⟩
theorem get_miss (B b m : Nat) (s1 s2 c s3 : Value) (kv : KV) (k : List UInt8) (w : World) (h : Pr B b m s1 s2 c s3 kv w) (hk : ∀ p ∈ kv, p.1 ≠ k) :
    Calls Tryz.prog 43 #[.pointer (some ⟨b, 0, none⟩), .string (txt k)] w fun e w' => e = .returned (.tuple #[.string ⟨#[]⟩, .bool false]) ∧ w' = w := by
  obtain ⟨c2, c3, _⟩ := h.cells
  have hlk := look_miss (P := Tryz.prog) 60 9 9 m kv k (.string ⟨#[]⟩) Tryz.underlying60 Tryz.underlying9 (by kernel_rfl) h.2.2.1 hk
  clear h hk
  go_enter Tryz.func43, Tryz.ntmps43
  go_wp2
  go_ret2
  exact ⟨rfl, rfl⟩

/-- What a store into the properties leaves alone. -/
def KeptP (b m : Nat) (w w' : World) : Prop := ∀ r, r < w.heap.size → r ≠ b → r ≠ m → (∀ x fz, w.heap[r]? ≠ some (.cells x 9 fz)) → w'.heap[r]? = w.heap[r]?
theorem own_ne_other {B r n : Nat} {v : Value} {xs : List Value} {w : World} (h : w.ownsRow B 9 1 v n xs) (hr : ∀ x fz, w.heap[r]? ≠ some (.cells x 9 fz)) : v.ownBlock ≠ some r := by
  intro e
  rcases h.2 with ⟨rfl, _⟩ | ⟨g, cap, cur, rfl, _, hg, _⟩
  · cases e
  · have : g = r := by simpa [Value.ownBlock] using e
    subst this
    exact hr _ _ hg
set_option maxHeartbeats 3200000 in
set_option maxRecDepth 100000 in
theorem set_new (B b m : Nat) (s1 s2 c s3 : Value) (kv : KV) (k v : List UInt8) (w : World) (h : Pr B b m s1 s2 c s3 kv w) (hk : ∀ p ∈ kv, p.1 ≠ k) (hk0 : k ≠ []) (hl : kv.length ≤ 2147483647) (hB : B ≤ w.heap.size) :
    Calls Tryz.prog 42 #[.pointer (some ⟨b, 0, none⟩), .string (txt k), .string (txt v)] w fun e w' => e = .returned (.tuple #[.string ⟨#[]⟩, .bool false, .nilIface]) ∧ Pr B b m s1 s2 c s3 (kv ++ [(k, v)]) w' ∧ Below B w w' ∧ KeptP b m w w' := by
  obtain ⟨i0, hi, hz0, hz1, hz2⟩ := info_parts Tryz.infoStr
  have hg := Lib.hid (get_miss B b m s1 s2 c s3 kv k w h hk)
  obtain ⟨c2, c3, _⟩ := h.cells
  obtain ⟨hBb, hBm, hM, vk, ho, hown⟩ := h
  obtain ⟨w2, hmu, hM2, hoth, hsz, hbw⟩ := put_new (P := Tryz.prog) 60 9 9 m kv k v B hBm Tryz.underlying60 Tryz.underlying9 hM hk
  have hbm : b ≠ m := by
    intro e
    subst e
    obtain ⟨_, es, cl, h1, _⟩ := hM
    rw [h1] at ho
    cases ho
  have ho2 := (hoth b hbm).trans ho
  have hown2 : w2.ownsRow B 9 1 vk kv.length (keysV kv) := owns_of hown fun g hg => hoth g (fun e => by
    subst e
    obtain ⟨_, es, cl, h1, _⟩ := hM
    exact own_ne_map hown h1 hg)
  have d5 : w2.cell? ⟨b, 5, none⟩ = some vk := by simp [World.cell?, ho2]
  have he : ((txt k).toList == ([] : List UInt8)) = false := by rw [txt_toList]; exact beq_eq_false_iff_ne.2 hk0
  obtain ⟨ao, cap, hvk⟩ := owns_slice hown2
  subst hvk
  have HO2 := Lib.hid ho2
  have HOW := Lib.hid hown2
  have HM2 := Lib.hid hM2
  have HBW := Lib.hid hbw
  have HSZ := Lib.hid hsz
  have hB2 : B ≤ w2.heap.size := by omega
  have HOTH := Lib.hid hoth
  have HOWN0 := Lib.hid hown
  have hlb : b < w2.heap.size := (Array.getElem?_eq_some_iff.1 ho2).1
  have hlm : m < w2.heap.size := hM2.lt
  clear hk hk0 hM ho hown hoth hsz ho2 hown2 hM2 hbw
  go_enter Tryz.func42, Tryz.ntmps42
  go_wp2_with fail
  refine hg.out.mono ?_
  rintro e w1 ⟨rfl, hw⟩
  obtain rfl := hw.symm
  go_wp2_with (at_builtin; refine wpList_app1 rfl _ _ 34 9 rfl i0 (.string ⟨#[]⟩) 16 Tryz.underlying34 hi hz0 hz1 hz2 rfl B _ kv.length _ rfl HOW.out (.string (txt k)) rfl rfl (by omega) (by omega) hB2 ?_)
  intro ao2 cap2 w3 hown3 hb3 hkeep
  have ho3 : w3.heap[b]? = some (.cells #[s1, s2, .bool true, .map (some m), c, .slice ao kv.length cap, s3] 63 (0, 0)) := (hkeep b hlb (own_ne_cells HOW.out HO2.out (by decide))).trans HO2.out
  have hM3 : IsM m (kv ++ [(k, v)]) w3 := HM2.out.of (hkeep m hlm (by
    obtain ⟨_, es, cl, h1, _⟩ := HM2.out
    exact own_ne_map HOW.out h1))
  have d53 : w3.cell? ⟨b, 5, none⟩ = some (.slice ao kv.length cap) := by simp [World.cell?, ho3]
  have f53 : w3.frozen? ⟨b, 5, none⟩ = false := by simp [World.frozen?, ho3]
  have hne : b ≠ m := by
    intro e
    subst e
    obtain ⟨_, es, cl, h1, _⟩ := hM3
    rw [h1] at ho3
    cases ho3
  have FIN : Hid (Pr B b m s1 s2 c s3 (kv ++ [(k, v)]) (w3.setCell ⟨b, 5, none⟩ (.slice ao2 (kv.length + 1) cap2))) := by
    refine ⟨hBb, hBm, hM3.of (Below.heap_setCell _ _ _ _ (fun e => hne e.symm)), .slice ao2 (kv.length + 1) cap2, ?_, ?_⟩
    · simp [World.setCell, Array.getElem?_modify, ho3]
    · have h4 : w3.ownsRow B 9 1 (.slice ao2 (kv.length + 1) cap2) (kv ++ [(k, v)]).length (keysV (kv ++ [(k, v)])) := by
        rw [List.length_append]
        unfold keysV
        rw [List.map_append]
        show World.ownsRow _ _ _ _ _ _ (List.map _ _)
        rw [List.map_append]
        exact hown3
      exact owns_of h4 fun g hg => Below.heap_setCell _ _ _ _ (fun e => own_ne_cells h4 ho3 (by decide) (by rw [hg, e]))
  have FB : Hid (Below B w (w3.setCell ⟨b, 5, none⟩ (.slice ao2 (kv.length + 1) cap2))) := (HBW.out.trans hb3).setCell (p := ⟨b, 5, none⟩) hBb _
  have FK : Hid (KeptP b m w (w3.setCell ⟨b, 5, none⟩ (.slice ao2 (kv.length + 1) cap2))) := by
    intro r hr hrb hrm hx
    rw [Below.heap_setCell _ _ _ _ (by exact hrb), hkeep r (by have := HSZ.out; omega) (own_ne_other HOWN0.out hx)]
    exact HOTH.out r hrm
  clear hown3 hb3 hkeep ho3 hM3
  go_wp2
  go_ret3
  exact ⟨rfl, FIN.out, FB.out, FK.out⟩

end Go.Proofs.YtdfhidnhkeapbaaGreatDoor
