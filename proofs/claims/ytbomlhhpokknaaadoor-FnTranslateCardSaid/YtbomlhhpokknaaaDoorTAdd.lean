/- addRune: one rune of the first pattern gets its rune. -/
import Derived.Test.YtbomlhhpokknaaaDoorTWorld
import Derived.WalkSpells
namespace Go.Proofs.YtbomlhhpokknaaaDoor
open Go.RowKit U8
open Go.Lib hiding intOf
open Go.Maps (Keyed has IsMap)

theorem ints_length (l : List Int) : (ints l).length = l.length := by simp [ints]
theorem ints_snoc (l : List Int) (x : Int) : ints (l ++ [x]) = ints l ++ [.int .i32 x] := by simp [ints]
/-- A dictionary behind a store. -/
theorem dict_set {L : List (Int × Int)} {C : Array Value} (hs : C.size = 256) (h : ∀ i : Nat, i < 128 → C[i]? = some (.int .i32 ((lkp L i).getD 0)) ∧ C[128 + i]? = some (.bool (lkp L i).isSome)) (f : Nat) (hf : f < 128) (t : Int) :
    ((C.setIfInBounds f (.int .i32 t)).setIfInBounds (128 + f) (.bool true)).size = 256 ∧ ∀ i : Nat, i < 128 → ((C.setIfInBounds f (.int .i32 t)).setIfInBounds (128 + f) (.bool true))[i]? = some (.int .i32 ((lkp (((f : Int), t) :: L) i).getD 0)) ∧ ((C.setIfInBounds f (.int .i32 t)).setIfInBounds (128 + f) (.bool true))[128 + i]? = some (.bool (lkp (((f : Int), t) :: L) i).isSome) := by
  refine ⟨by simp [hs], fun i hi => ?_⟩
  rw [lkp_cons, Array.getElem?_setIfInBounds_ne (by omega)]
  by_cases e : f = i
  · subst e
    rw [if_pos rfl, Array.getElem?_setIfInBounds_self_of_lt (by omega), Array.getElem?_setIfInBounds_self_of_lt (by simp; omega)]
    exact ⟨rfl, rfl⟩
  · rw [if_neg (by omega), Array.getElem?_setIfInBounds_ne (by omega), Array.getElem?_setIfInBounds_ne (by omega), Array.getElem?_setIfInBounds_ne (by omega)]
    exact h i hi

theorem TrAt.run {B b : Nat} {T : Tr} {mr rv dl hp : Value} {w w' : World} (h : TrAt B b T mr rv dl hp w) (k : Kp (some runT) w w') : TrAt B b T mr rv dl hp w' := by
  obtain ⟨q, m, v, h1, h2, h3, h4, h5⟩ := h
  exact ⟨q, m, v, k b _ h1 (show (some trT : Option TypeId) ≠ some runT by decide), h2, h3.keep k (by decide), h4.keep k (by decide), h5.keep k (by decide) (by decide)⟩
theorem add_end {B b : Nat} {T : Tr} {mr rv dl hp : Value} {w W w2 : World} {v v' : Value} {l : List Int} {f : Int} {o : Obj} (hT : TrAt B b T mr rv dl hp W) (hc : Chg B b w W) (hB : B ≤ W.heap.size) (hs : SgAt B v l W)
    (hg : (W.alloc o).grownBy w2 v.ownBlock) (hown : w2.ownsRow B 21 1 v' (l.length + 1) (ints l ++ [.int .i32 f])) : TrAt B b T mr rv dl hp w2 ∧ SgAt B v' (l ++ [f]) w2 ∧ Chg B b w w2 := by
  have k1 : Kp (some runT) W (W.alloc o) := Kp.alloc _ _ _
  have hs2 : (W.alloc o).ownsRow B 21 1 v l.length (ints l) := World.ownsRow.alloc hs o
  have k2 : Kp (some runT) (W.alloc o) w2 := Kp.row hs2 hg
  refine ⟨hT.run (k1.trans k2), ?_, (hc.alloc hB o).grown hg (fun k hk => (hs2.lt k hk).1) (by simp; omega)⟩
  show w2.ownsRow B 21 1 v' (l ++ [f]).length (ints (l ++ [f]))
  rw [ints_snoc, List.length_append]
  exact hown
/-- A store into the dictionary. -/
theorem cells_set {w : World} {d : Nat} {C : Array Value} {t : TypeId} (h : w.heap[d]? = some (.cells C t (0, 0))) (k : Nat) (u : Value) : (w.setCell ⟨d, k, none⟩ u).heap[d]? = some (.cells (C.setIfInBounds k u) t (0, 0)) := by
  simp [World.setCell, Array.getElem?_modify, h]
theorem set_size (w : World) (p : Addr) (u : Value) : (w.setCell p u).heap.size = w.heap.size := by simp [World.setCell]
/-- What every call of addRune does with the row of single runes. -/
theorem one_cell (W : World) (f : Int) : ∀ (j : Nat) (u : Value), [Value.int IntKind.i32 f][j]? = some u → (W.alloc (.cells #[.int .i32 f] 21)).cell? ((⟨W.heap.size, 0, none⟩ : Addr).add j) = some u := by
  intro j u hj
  match j, hj with
  | 0, hj => simp at hj; subst hj; simp [Addr.add]

set_option maxHeartbeats 1600000 in
set_option maxRecDepth 100000 in
theorem add_dict (B b : Nat) (T : Tr) (f : Nat) (t : Int) (v mr rv dl hp : Value) (L : List (Int × Int)) (hf : f ≤ 127) (hL : T.dict = some L) (w : World) (hB : B ≤ w.heap.size) (hT : TrAt B b T mr rv dl hp w) (hs : SgAt B v T.sing w) (hl : T.sing.length ≤ 1000000) :
    Calls Tryd.prog 42 #[.pointer (some ⟨b, 0, none⟩), .int .i32 f, .int .i32 t, v] w fun e w' => ∃ v', e = .returned v' ∧ TrAt B b (T.addRune f t) mr rv dl hp w' ∧ SgAt B v' (T.addRune f t).sing w' ∧ Chg B b w w' := by
  rw [addRune_sing]
  obtain ⟨i0, hi, hz0, hz1, hz2⟩ := info_parts Tryd.info21
  obtain ⟨q, m, rg, ho, hbB, hd, hm, hr⟩ := hT
  have hlb : b < w.heap.size := (Array.getElem?_eq_some_iff.1 ho).1
  rw [hL] at hd
  obtain ⟨d, C, rfl, hBd, hC, hsz, hdc⟩ := hd
  have c0 : w.cell? ⟨b, 0, none⟩ = some (.pointer (some ⟨d, 0, none⟩)) := by simp [World.cell?, ho]
  have hld : d < w.heap.size := (Array.getElem?_eq_some_iff.1 hC).1
  have cf : w.cell? ⟨d, f, none⟩ = some (.int .i32 ((lkp L f).getD 0)) := by rw [← (hdc f (by omega)).1]; simp [World.cell?, hC]
  have ff : w.frozen? ⟨d, f, none⟩ = false := by simp [World.frozen?, hC]
  have cg : w.cell? ⟨d, 128 + f, none⟩ = some (.bool (lkp L f).isSome) := by rw [← (hdc f (by omega)).2]; simp [World.cell?, hC]
  have fg : w.frozen? ⟨d, 128 + f, none⟩ = false := by simp [World.frozen?, hC]
  obtain ⟨W, hW⟩ : ∃ W, (w.setCell ⟨d, f, none⟩ (.int .i32 t)).setCell ⟨d, 128 + f, none⟩ (.bool true) = W := ⟨_, rfl⟩
  have kW : Kp (some dictT) w W := by rw [← hW]; exact (Kp.set hC f _).trans (Kp.set (cells_set hC f _) _ _)
  have sW : W.heap.size = w.heap.size := by rw [← hW, set_size, set_size]
  have HG : Hid (Chg B b w W) := by show Chg B b w W; rw [← hW]; exact ((Chg.refl B b w).set (.inl hBd) _).set (.inl hBd) _
  have HBW : Hid (B ≤ W.heap.size) := by show _ ≤ _; omega
  have HS : Hid (SgAt B v T.sing W) := row_keep hs kW (by decide)
  have dC := dict_set hsz hdc f (by omega) t
  have HT : Hid (TrAt B b (T.addRune f t) mr rv dl hp W) := by
    show TrAt _ _ _ _ _ _ _ _
    unfold Tr.addRune
    rw [if_pos (by omega), hL]
    refine ⟨_, m, rg, kW b _ ho (show (some trT : Option TypeId) ≠ some dictT by decide), hbB, ⟨d, _, rfl, hBd, ?_, dC.1, dC.2⟩, ?_, hr.keep kW (by decide) (by decide)⟩
    · rw [← hW]; exact cells_set (cells_set hC f _) _ _
    · exact (hm.keep kW (by decide)).mono (by simp)
  have HC := Lib.hid (one_cell W f)
  have HW := Lib.hid hW
  rw [sW] at HC
  clear dC hs hL hdc ho hm hr kW sW hW hC
  go_enter Tryd.func42, Tryd.ntmps42
  go_wp2_with (rw [HW.out]; at_builtin; refine wpList_append_own _ rfl _ _ 49 rfl B 21 i0 (.int .i32 0) 1 4 Tryd.underlying49 hi hz0 hz1 hz2 rfl (by decide) v T.sing.length (ints T.sing) rfl ?c0 ⟨w.heap.size, 0, none⟩ 1 1 [.int .i32 f] rfl rfl ?c1 ?c2 ?c3 ?c4 ?c5 ?_)
  case c0 => exact World.ownsRow.alloc HS.out _
  case c1 => exact HC.out
  case c2 => intro u hu; simp at hu; subst hu; rfl
  case c3 => unfold maxLen; omega
  case c4 => omega
  case c5 => have := HBW.out; simp; omega
  intro v' w2 hown' hgrow _
  go_wp2
  go_ret
  exact ⟨v', rfl, add_end HT.out HG.out HBW.out HS.out hgrow hown'⟩


theorem zero_list : Tryd.zeroCells80.toList = List.replicate 128 (.int .i32 0) ++ List.replicate 128 (.bool false) := by kernel_rfl
theorem zero_dict : Tryd.zeroCells80.size = 256 ∧ ∀ i : Nat, i < 128 → Tryd.zeroCells80[i]? = some (.int .i32 ((lkp [] i).getD 0)) ∧ Tryd.zeroCells80[128 + i]? = some (.bool (lkp [] i).isSome) := by
  refine ⟨?_, fun i hi => ?_⟩
  · rw [← Array.length_toList, zero_list, List.length_append, List.length_replicate, List.length_replicate]
  · rw [← Array.getElem?_toList, ← Array.getElem?_toList, zero_list, List.getElem?_append_left (by simpa using hi), List.getElem?_append_right (by simp), List.length_replicate, List.getElem?_replicate, List.getElem?_replicate, if_pos hi, if_pos (by omega)]
    exact ⟨rfl, rfl⟩
set_option maxHeartbeats 1600000 in
set_option maxRecDepth 100000 in
theorem add_dict0 (B b : Nat) (T : Tr) (f : Nat) (t : Int) (v mr rv dl hp : Value) (hf : f ≤ 127) (hL : T.dict = none) (w : World) (hB : B ≤ w.heap.size) (hT : TrAt B b T mr rv dl hp w) (hs : SgAt B v T.sing w) (hl : T.sing.length ≤ 1000000) :
    Calls Tryd.prog 42 #[.pointer (some ⟨b, 0, none⟩), .int .i32 f, .int .i32 t, v] w fun e w' => ∃ v', e = .returned v' ∧ TrAt B b (T.addRune f t) mr rv dl hp w' ∧ SgAt B v' (T.addRune f t).sing w' ∧ Chg B b w w' := by
  rw [addRune_sing]
  obtain ⟨i0, hi, hz0, hz1, hz2⟩ := info_parts Tryd.info21
  obtain ⟨q, m, rg, ho, hbB, hd, hm, hr⟩ := hT
  have hlb : b < w.heap.size := (Array.getElem?_eq_some_iff.1 ho).1
  rw [hL] at hd
  have hd : q = .pointer none := hd
  subst hd
  have c0 : w.cell? ⟨b, 0, none⟩ = some (.pointer none) := by simp [World.cell?, ho]
  have f0 : w.frozen? ⟨b, 0, none⟩ = false := by simp [World.frozen?, ho]
  have hbn : b ≠ w.heap.size := by omega
  have k0 : b < w.heap.size + 1 := by omega
  have z1 : Tryd.zeroCells80[f]? = some (.int .i32 0) := (zero_dict.2 f (by omega)).1
  have z2 : Tryd.zeroCells80[128 + f]? = some (.bool false) := (zero_dict.2 f (by omega)).2
  obtain ⟨W, hW⟩ : ∃ W, (w.setCell ⟨b, 0, none⟩ (.pointer (some ⟨w.heap.size, 0, none⟩))).alloc (.cells ((Tryd.zeroCells80.setIfInBounds f (.int .i32 t)).setIfInBounds (128 + f) (.bool true)) 80) = W := ⟨_, rfl⟩
  have kS : Kp (some trT) w (w.setCell ⟨b, 0, none⟩ (.pointer (some ⟨w.heap.size, 0, none⟩))) := Kp.set ho _ _
  have kW : Kp (some trT) w W := by rw [← hW]; exact kS.trans (Kp.alloc _ _ _)
  have sW : W.heap.size = w.heap.size + 1 := by rw [← hW]; simp
  have HG : Hid (Chg B b w W) := by show Chg B b w W; rw [← hW]; exact ((Chg.refl B b w).set (.inr rfl) _).alloc (by rw [set_size]; exact hB) _
  have HBW : Hid (B ≤ W.heap.size) := by show _ ≤ _; omega
  have HS : Hid (SgAt B v T.sing W) := row_keep hs kW (by decide)
  have dC := dict_set zero_dict.1 zero_dict.2 f (by omega) t
  have HT : Hid (TrAt B b (T.addRune f t) mr rv dl hp W) := by
    show TrAt _ _ _ _ _ _ _ _
    unfold Tr.addRune
    rw [if_pos (by omega), hL]
    refine ⟨_, m, rg, ?_, hbB, ⟨w.heap.size, _, rfl, hB, ?_, dC.1, dC.2⟩, ?_, hr.keep kW (by decide) (by decide)⟩
    · rw [← hW]; exact Kp.alloc none _ _ b _ (cells_set ho 0 _) (by simp [tagOf])
    · have hn := heap_alloc_new (w.setCell ⟨b, 0, none⟩ (.pointer (some ⟨w.heap.size, 0, none⟩))) (.cells ((Tryd.zeroCells80.setIfInBounds f (.int .i32 t)).setIfInBounds (128 + f) (.bool true)) 80)
      rw [set_size] at hn
      rw [← hW]
      exact hn
    · exact (hm.keep kW (by decide)).mono (by simp)
  have HC := Lib.hid (one_cell W f)
  have HW := Lib.hid hW
  rw [sW] at HC
  clear dC hs hL ho hm hr kW kS sW hW
  go_enter Tryd.func42, Tryd.ntmps42
  go_wp2_with (rw [HW.out]; at_builtin; refine wpList_append_own _ rfl _ _ 49 rfl B 21 i0 (.int .i32 0) 1 4 Tryd.underlying49 hi hz0 hz1 hz2 rfl (by decide) v T.sing.length (ints T.sing) rfl ?c0 ⟨w.heap.size + 1, 0, none⟩ 1 1 [.int .i32 f] rfl rfl ?c1 ?c2 ?c3 ?c4 ?c5 ?_)
  case c0 => exact World.ownsRow.alloc HS.out _
  case c1 => exact HC.out
  case c2 => intro u hu; simp at hu; subst hu; rfl
  case c3 => unfold maxLen; omega
  case c4 => omega
  case c5 => have := HBW.out; simp; omega
  intro v' w2 hown' hgrow _
  go_wp2
  go_ret
  exact ⟨v', rfl, add_end HT.out HG.out HBW.out HS.out hgrow hown'⟩

theorem wf_cp {t : Int} (h : Cp t) : (Lit.int .i32 t).wf = true := by
  unfold Cp at h
  have h1 : IntKind.i32.min = -2147483648 := by decide
  have h2 : IntKind.i32.max = 2147483647 := by decide
  show (decide (IntKind.i32.min ≤ t) && decide (t ≤ IntKind.i32.max)) = true
  rw [h1, h2, Bool.and_eq_true, decide_eq_true_eq, decide_eq_true_eq]
  omega
set_option maxHeartbeats 1600000 in
set_option maxRecDepth 100000 in
theorem add_map (B b : Nat) (T : Tr) (f : Nat) (t : Int) (v mr rv dl hp : Value) (L : List (Int × Int)) (hf : 127 < f) (hf2 : f ≤ 1114111) (ht : Cp t) (hL : T.rmap = some L) (w : World) (hB : B ≤ w.heap.size) (hT : TrAt B b T mr rv dl hp w) (hs : SgAt B v T.sing w) (hl : T.sing.length ≤ 1000000) :
    Calls Tryd.prog 42 #[.pointer (some ⟨b, 0, none⟩), .int .i32 f, .int .i32 t, v] w fun e w' => ∃ v', e = .returned v' ∧ TrAt B b (T.addRune f t) mr rv dl hp w' ∧ SgAt B v' (T.addRune f t).sing w' ∧ Chg B b w w' := by
  rw [addRune_sing]
  obtain ⟨i0, hi, hz0, hz1, hz2⟩ := info_parts Tryd.info21
  obtain ⟨q, m, rg, ho, hbB, hd, hm, hr⟩ := hT
  have hlb : b < w.heap.size := (Array.getElem?_eq_some_iff.1 ho).1
  rw [hL] at hm
  obtain ⟨k, D, n', rfl, hBk, hn', hM, hD⟩ := hm
  have c1 : w.cell? ⟨b, 1, none⟩ = some (.map (some k)) := by simp [World.cell?, ho]
  have hwf : (Lit.int .i32 (f : Int)).wf = true := wf_cp (by unfold Cp; omega)
  have hkey := Go.Maps.keyOf_int_mk Tryd.underlying21 hwf
  have hval := plainElem_int (H := Unit) Tryd.underlying21 (wf_cp ht)
  have HO := Lib.hid ho
  have HR := Lib.hid hr
  have HDD := Lib.hid hd
  clear ho hr hd
  have qT : ∀ (w : World) (r : Option Nat), (binOp .eql 58 (.map r) (.map none)).run Tryd.prog w = .ok (.bool r.isNone) w := fun w r => run_eql_map_nil w _ _ _ r Tryd.underlying58
  go_enter Tryd.func42, Tryd.ntmps42
  go_wp2_with (at_mapUpdate; refine wpList_mapUpdate_own _ rfl _ _ _ 58 rfl 21 21 (Go.Maps.int_keyed Tryd.underlying21) Tryd.underlying58 _ k n' D rfl hM (by unfold maxLen; omega) _ _ (ikey f) rfl rfl hkey (.lit (.int .i32 t)) [] hval ?_)
  intro W hM1 hg1
  have kW : Kp none w W := Kp.map hM hg1
  have HG : Hid (Chg B b w W) := (Chg.refl B b w).grown hg1 (fun j hj => by cases hj; exact hBk) hB
  have HBW : Hid (B ≤ W.heap.size) := Nat.le_trans hB hg1.size
  have HS : Hid (SgAt B v T.sing W) := row_keep hs kW (by decide)
  have HT : Hid (TrAt B b (T.addRune f t) mr rv dl hp W) := by
    show TrAt _ _ _ _ _ _ _ _
    unfold Tr.addRune
    rw [if_neg (by omega), hL]
    exact ⟨q, _, rg, kW b _ HO.out (show (some trT : Option TypeId) ≠ none by decide), hbB, HDD.out.keep kW (by decide), ⟨k, _, n' + 1, rfl, hBk, by simp; omega, hM1, says_put hD f t⟩, HR.out.keep kW (by decide) (by decide)⟩
  have HC := Lib.hid (one_cell W f)
  clear hM hM1 hg1 kW hs hL hD c1 hkey hval
  go_wp2_with (at_builtin; refine wpList_append_own _ rfl _ _ 49 rfl B 21 i0 (.int .i32 0) 1 4 Tryd.underlying49 hi hz0 hz1 hz2 rfl (by decide) v T.sing.length (ints T.sing) rfl ?c0 ⟨W.heap.size, 0, none⟩ 1 1 [.int .i32 f] rfl rfl ?c1 ?c2 ?c3 ?c4 ?c5 ?_)
  case c0 => exact World.ownsRow.alloc HS.out _
  case c1 => exact HC.out
  case c2 => intro u hu; simp at hu; subst hu; rfl
  case c3 => unfold maxLen; omega
  case c4 => omega
  case c5 => have := HBW.out; simp; omega
  intro v' w2 hown' hgrow _
  go_wp2
  go_ret
  exact ⟨v', rfl, add_end HT.out HG.out HBW.out HS.out hgrow hown'⟩

set_option maxHeartbeats 1600000 in
set_option maxRecDepth 100000 in
theorem add_map0 (B b : Nat) (T : Tr) (f : Nat) (t : Int) (v mr rv dl hp : Value) (hf : 127 < f) (hf2 : f ≤ 1114111) (ht : Cp t) (hL : T.rmap = none) (w : World) (hB : B ≤ w.heap.size) (hT : TrAt B b T mr rv dl hp w) (hs : SgAt B v T.sing w) (hl : T.sing.length ≤ 1000000) :
    Calls Tryd.prog 42 #[.pointer (some ⟨b, 0, none⟩), .int .i32 f, .int .i32 t, v] w fun e w' => ∃ v', e = .returned v' ∧ TrAt B b (T.addRune f t) mr rv dl hp w' ∧ SgAt B v' (T.addRune f t).sing w' ∧ Chg B b w w' := by
  rw [addRune_sing]
  obtain ⟨i0, hi, hz0, hz1, hz2⟩ := info_parts Tryd.info21
  obtain ⟨q, m, rg, ho, hbB, hd, hm, hr⟩ := hT
  have hlb : b < w.heap.size := (Array.getElem?_eq_some_iff.1 ho).1
  rw [hL] at hm
  have hm : m = .map none := hm
  subst hm
  have c1 : w.cell? ⟨b, 1, none⟩ = some (.map none) := by simp [World.cell?, ho]
  have f1 : w.frozen? ⟨b, 1, none⟩ = false := by simp [World.frozen?, ho]
  have hbn : b ≠ w.heap.size := by omega
  have k0 : b < w.heap.size + 1 := by omega
  have hwf : (Lit.int .i32 (f : Int)).wf = true := wf_cp (by unfold Cp; omega)
  have hkey := Go.Maps.keyOf_int_mk Tryd.underlying21 hwf
  have hval := plainElem_int (H := Unit) Tryd.underlying21 (wf_cp ht)
  have kS : Kp (some trT) w (w.setCell ⟨b, 1, none⟩ (.map (some w.heap.size))) := Kp.set ho _ _
  have hM : ((w.setCell ⟨b, 1, none⟩ (.map (some w.heap.size))).alloc (.map #[] 0)).ownsMap Tryd.prog 21 (plainElem (H := Unit) Tryd.prog 21) w.heap.size 0 (.map []) := by
    have := World.ownsMap_made (w.setCell ⟨b, 1, none⟩ (.map (some w.heap.size))) Tryd.prog 21 (plainElem (H := Unit) Tryd.prog 21)
    rw [set_size] at this
    exact this
  have kS2 : Kp (some trT) w ((w.setCell ⟨b, 1, none⟩ (.map (some w.heap.size))).alloc (.map #[] 0)) := kS.trans (Kp.alloc _ _ _)
  have hcW : Chg B b w ((w.setCell ⟨b, 1, none⟩ (.map (some w.heap.size))).alloc (.map #[] 0)) := ((Chg.refl B b w).set (.inr rfl) _).alloc (by rw [set_size]; exact hB) _
  have hoW : ((w.setCell ⟨b, 1, none⟩ (.map (some w.heap.size))).alloc (.map #[] 0)).heap[b]? = some (.cells #[q, .map (some w.heap.size), rg, mr, rv, dl, hp] 61 (0, 0)) := Kp.alloc none _ _ b _ (cells_set ho 1 _) (by simp [tagOf])
  have HO := Lib.hid hoW
  have HR := Lib.hid (hr.keep kS2 (by decide) (by decide))
  have HDD := Lib.hid (hd.keep kS2 (by decide))
  have HS0 : Hid (SgAt B v T.sing _) := row_keep hs kS2 (by decide)
  have HCW := Lib.hid hcW
  have hmm := @run_makeMap Tryd.prog
  clear ho hr hd hoW kS kS2 hs hcW
  have qT : ∀ (w : World) (r : Option Nat), (binOp .eql 58 (.map r) (.map none)).run Tryd.prog w = .ok (.bool r.isNone) w := fun w r => run_eql_map_nil w _ _ _ r Tryd.underlying58
  go_enter Tryd.func42, Tryd.ntmps42
  go_wp2_with (at_mapUpdate; refine wpList_mapUpdate_own _ rfl _ _ _ 58 rfl 21 21 (Go.Maps.int_keyed Tryd.underlying21) Tryd.underlying58 _ w.heap.size 0 (.map []) rfl hM (by unfold maxLen; omega) _ _ (ikey f) rfl rfl hkey (.lit (.int .i32 t)) [] hval ?_)
  intro W hM1 hg1
  have kW := Kp.map hM hg1
  have HG : Hid (Chg B b w W) := HCW.out.grown hg1 (fun j hj => by cases hj; exact hB) (by simp; omega)
  have HBW : Hid (B ≤ W.heap.size) := by have := HG.out.size; show _ ≤ _; omega
  have HS : Hid (SgAt B v T.sing W) := row_keep HS0.out kW (by decide)
  have HT : Hid (TrAt B b (T.addRune f t) mr rv dl hp W) := by
    show TrAt _ _ _ _ _ _ _ _
    unfold Tr.addRune
    rw [if_neg (by omega), hL]
    exact ⟨q, _, rg, kW b _ HO.out (show (some trT : Option TypeId) ≠ none by decide), hbB, HDD.out.keep kW (by decide), ⟨w.heap.size, _, 1, rfl, hB, by simp, hM1, says_put says_nil f t⟩, HR.out.keep kW (by decide) (by decide)⟩
  have HC := Lib.hid (one_cell W f)
  clear hM hM1 hg1 kW hL c1 hkey hval hmm
  go_wp2_with (at_builtin; refine wpList_append_own _ rfl _ _ 49 rfl B 21 i0 (.int .i32 0) 1 4 Tryd.underlying49 hi hz0 hz1 hz2 rfl (by decide) v T.sing.length (ints T.sing) rfl ?c0 ⟨W.heap.size, 0, none⟩ 1 1 [.int .i32 f] rfl rfl ?c1 ?c2 ?c3 ?c4 ?c5 ?_)
  case c0 => exact World.ownsRow.alloc HS.out _
  case c1 => exact HC.out
  case c2 => intro u hu; simp at hu; subst hu; rfl
  case c3 => unfold maxLen; omega
  case c4 => omega
  case c5 => have := HBW.out; simp; omega
  intro v' w2 hown' hgrow _
  go_wp2
  go_ret
  exact ⟨v', rfl, add_end HT.out HG.out HBW.out HS.out hgrow hown'⟩



/-- ONE RUNE OF THE FIRST PATTERN GETS ITS RUNE. -/
theorem add_rune (B b : Nat) (T : Tr) (f t : Int) (v mr rv dl hp : Value) (w : World) (hf : Cp f) (ht : Cp t) (hB : B ≤ w.heap.size) (hT : TrAt B b T mr rv dl hp w) (hs : SgAt B v T.sing w) (hl : T.sing.length ≤ 1000000) :
    Calls Tryd.prog 42 #[.pointer (some ⟨b, 0, none⟩), .int .i32 f, .int .i32 t, v] w fun e w' => ∃ v', e = .returned v' ∧ TrAt B b (T.addRune f t) mr rv dl hp w' ∧ SgAt B v' (T.addRune f t).sing w' ∧ Chg B b w w' := by
  obtain ⟨n, rfl⟩ : ∃ n : Nat, f = (n : Int) := ⟨f.toNat, by unfold Cp at hf; omega⟩
  unfold Cp at hf
  by_cases h : n ≤ 127
  · cases hd : T.dict with
    | none => exact add_dict0 B b T n t v mr rv dl hp h hd w hB hT hs hl
    | some L => exact add_dict B b T n t v mr rv dl hp L h hd w hB hT hs hl
  · cases hd : T.rmap with
    | none => exact add_map0 B b T n t v mr rv dl hp (by omega) (by omega) ht hd w hB hT hs hl
    | some L => exact add_map B b T n t v mr rv dl hp L (by omega) (by omega) ht hd w hB hT hs hl

end Go.Proofs.YtbomlhhpokknaaaDoor
