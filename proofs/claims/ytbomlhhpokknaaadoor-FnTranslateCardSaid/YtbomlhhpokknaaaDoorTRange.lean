/- addRuneRange: a range of the first pattern gets its range; single runes that lie in it are forgotten. -/
import Derived.Test.YtbomlhhpokknaaaDoorTAdd
namespace Go.Proofs.YtbomlhhpokknaaaDoor
open Go.RowKit U8
open Go.Lib hiding intOf
open Go.Maps (Keyed has IsMap)

theorem Tryd.infoP : (Tryd.prog.info? 81).map (fun i => (i.zero, i.size, i.bytes)) = some (some (.pointer none), 1, 8) := by kernel_rfl
theorem ptrs_snoc (l : List Nat) (g : Nat) : ptrs (l ++ [g]) = ptrs l ++ [.pointer (some ⟨g, 0, none⟩)] := by simp [ptrs]
theorem take_snoc_int (l : List Int) (k : Nat) (x : Int) (h : l[k]? = some x) : l.take (k + 1) = l.take k ++ [x] := by
  rw [List.take_add_one, h]; rfl
theorem dict_clr {L : List (Int × Int)} {C : Array Value} (hs : C.size = 256) (h : ∀ i : Nat, i < 128 → C[i]? = some (.int .i32 ((lkp L i).getD 0)) ∧ C[128 + i]? = some (.bool (lkp L i).isSome)) (f : Nat) (hf : f < 128) :
    ((C.setIfInBounds f (.int .i32 0)).setIfInBounds (128 + f) (.bool false)).size = 256 ∧ ∀ i : Nat, i < 128 → ((C.setIfInBounds f (.int .i32 0)).setIfInBounds (128 + f) (.bool false))[i]? = some (.int .i32 ((lkp (dlt f L) i).getD 0)) ∧ ((C.setIfInBounds f (.int .i32 0)).setIfInBounds (128 + f) (.bool false))[128 + i]? = some (.bool (lkp (dlt f L) i).isSome) := by
  refine ⟨by simp [hs], fun i hi => ?_⟩
  rw [Array.getElem?_setIfInBounds_ne (by omega)]
  by_cases e : f = i
  · subst e
    rw [lkp_dlt_same, Array.getElem?_setIfInBounds_self_of_lt (by omega), Array.getElem?_setIfInBounds_self_of_lt (by simp; omega)]
    exact ⟨rfl, rfl⟩
  · rw [lkp_dlt_other _ _ (by omega), Array.getElem?_setIfInBounds_ne (by omega), Array.getElem?_setIfInBounds_ne (by omega), Array.getElem?_setIfInBounds_ne (by omega)]
    exact h i hi
theorem Kp.turned {w w' : World} {b : Nat} (h : w.mapTurned w' b) : Kp none w w' := by
  obtain ⟨es, cl, es', cl', hb, rfl⟩ := h
  intro k o hk ht
  by_cases e : k = b
  · subst e; rw [hb] at hk; cases hk; exact absurd rfl ht
  · rw [Go.ChangeMaps.heap_setBlock_other hb _ e]; exact hk
theorem Chg.turned {B b k : Nat} {x y z : World} (h : Chg B b x y) (ht : y.mapTurned z k) (hk : B ≤ k) : Chg B b x z := by
  obtain ⟨es, cl, es', cl', hb, rfl⟩ := ht
  exact h.trans ⟨rfl, rfl, rfl, by simp [Go.ChangeMaps.setBlock], fun i h1 _ => Go.ChangeMaps.heap_setBlock_other hb _ (by omega)⟩
/-- What the loop over the single runes keeps. -/
structure Rng (B b g0 : Nat) (T : Tr) (R : Int × Int × Int × Int) (k : Nat) (mr rv dl hp v : Value) (w wr : World) : Prop where
  tr : TrAt B b (T.clear R.1 R.2.1 (T.sing.take k)) mr rv dl hp wr
  sg : SgAt B v T.sing wr
  ch : Chg B b w wr
  bl : wr.heap[g0]? = some (.cells (rngCells R) 83 (0, 0))
theorem Rng.same {B b g0 : Nat} {T : Tr} {R : Int × Int × Int × Int} {k : Nat} {mr rv dl hp v : Value} {w wr : World} (h : Rng B b g0 T R k mr rv dl hp v w wr) (x : Int) (hx : T.sing[k]? = some x) (hn : ¬ (R.1 ≤ x ∧ x ≤ R.2.1)) : Rng B b g0 T R (k + 1) mr rv dl hp v w wr := by
  refine ⟨?_, h.sg, h.ch, h.bl⟩
  rw [take_snoc_int _ _ _ hx, clear_snoc]
  unfold Tr.clear1
  rw [if_neg hn]
  exact h.tr
theorem Rng.dict {B b g0 : Nat} {T : Tr} {R : Int × Int × Int × Int} {k : Nat} {mr rv dl hp v : Value} {w wr : World} (h : Rng B b g0 T R k mr rv dl hp v w wr) (x : Nat) (hx : T.sing[k]? = some (x : Int)) (hn : R.1 ≤ (x : Int) ∧ (x : Int) ≤ R.2.1) (h127 : x ≤ 127) (hd : T.dict.isSome = true) :
    ∃ d z1 z2, wr.cell? ⟨b, 0, none⟩ = some (.pointer (some ⟨d, 0, none⟩)) ∧ wr.cell? ⟨d, x, none⟩ = some z1 ∧ wr.cell? ⟨d, 128 + x, none⟩ = some z2 ∧ wr.frozen? ⟨d, x, none⟩ = false ∧ wr.frozen? ⟨d, 128 + x, none⟩ = false ∧ d ≠ b ∧
      Rng B b g0 T R (k + 1) mr rv dl hp v w ((wr.setCell ⟨d, x, none⟩ (.int .i32 0)).setCell ⟨d, 128 + x, none⟩ (.bool false)) := by
  obtain ⟨q, m, rg, ho, hbB, hq, hm, hr⟩ := h.tr
  have hds : (T.clear R.1 R.2.1 (T.sing.take k)).dict.isSome = true := by rw [(clear_keeps R.1 R.2.1 (T.sing.take k) T).2.2.1]; exact hd
  obtain ⟨L, hL⟩ := Option.isSome_iff_exists.1 hds
  rw [hL] at hq
  obtain ⟨d, C, rfl, hBd, hC, hsz, hdc⟩ := hq
  have kW : Kp (some dictT) wr ((wr.setCell ⟨d, x, none⟩ (.int .i32 0)).setCell ⟨d, 128 + x, none⟩ (.bool false)) := (Kp.set hC _ _).trans (Kp.set (cells_set hC _ _) _ _)
  have dC := dict_clr hsz hdc x (by omega)
  refine ⟨d, (.int .i32 ((lkp L x).getD 0)), (.bool (lkp L x).isSome), by simp [World.cell?, ho], by rw [← (hdc x (by omega)).1]; simp [World.cell?, hC], by rw [← (hdc x (by omega)).2]; simp [World.cell?, hC], by simp [World.frozen?, hC], by simp [World.frozen?, hC], by omega, ?_, row_keep h.sg kW (by decide), (h.ch.set (.inl hBd) _).set (.inl hBd) _, kW _ _ h.bl (show (some rngT : Option TypeId) ≠ some dictT by decide)⟩
  rw [take_snoc_int _ _ _ hx, clear_snoc]
  unfold Tr.clear1
  rw [if_pos hn, if_pos (by omega), hL]
  exact ⟨_, m, rg, kW b _ ho (show (some trT : Option TypeId) ≠ some dictT by decide), hbB, ⟨d, _, rfl, hBd, cells_set (cells_set hC x _) _ _, dC.1, dC.2⟩, hm.keep kW (by decide), hr.keep kW (by decide) (by decide)⟩
theorem Rng.rmap {B b g0 : Nat} {T : Tr} {R : Int × Int × Int × Int} {k : Nat} {mr rv dl hp v : Value} {w wr : World} (h : Rng B b g0 T R k mr rv dl hp v w wr) (x : Int) (hx : T.sing[k]? = some x) (hn : R.1 ≤ x ∧ x ≤ R.2.1) (h127 : ¬ x ≤ 127) (hd : T.rmap.isSome = true) :
    ∃ (j n' : Nat) (D : DataW Unit), wr.cell? ⟨b, 1, none⟩ = some (.map (some j)) ∧ wr.ownsMap Tryd.prog 21 (plainElem (H := Unit) Tryd.prog 21) j n' D ∧
      ∀ w2, w2.ownsMap Tryd.prog 21 (plainElem (H := Unit) Tryd.prog 21) j n' (D.del (ikey x)) → wr.mapTurned w2 j → Rng B b g0 T R (k + 1) mr rv dl hp v w w2 := by
  obtain ⟨q, m, rg, ho, hbB, hq, hm, hr⟩ := h.tr
  have hds : (T.clear R.1 R.2.1 (T.sing.take k)).rmap.isSome = true := by rw [(clear_keeps R.1 R.2.1 (T.sing.take k) T).2.2.2]; exact hd
  obtain ⟨L, hL⟩ := Option.isSome_iff_exists.1 hds
  rw [hL] at hm
  obtain ⟨j, D, n', rfl, hBj, hn', hM, hD⟩ := hm
  refine ⟨j, n', D, by simp [World.cell?, ho], hM, fun w2 hM2 ht => ?_⟩
  have kW := Kp.turned ht
  refine ⟨?_, row_keep h.sg kW (by decide), h.ch.turned ht hBj, kW _ _ h.bl (show (some rngT : Option TypeId) ≠ none by decide)⟩
  rw [take_snoc_int _ _ _ hx, clear_snoc]
  unfold Tr.clear1
  rw [if_pos hn, if_neg h127, hL]
  exact ⟨q, _, rg, kW b _ ho (show (some trT : Option TypeId) ≠ none by decide), hbB, hq.keep kW (by decide), ⟨j, _, n', rfl, hBj, hn', hM2, says_del hD x⟩, hr.keep kW (by decide) (by decide)⟩
/-- The range is put behind the others. -/
theorem Rng.done {B b g0 : Nat} {T : Tr} {R : Int × Int × Int × Int} {mr rv dl hp v : Value} {w wr : World} (h : Rng B b g0 T R T.sing.length mr rv dl hp v w wr) (hg0 : B ≤ g0) :
    ∃ rg gs, wr.cell? ⟨b, 2, none⟩ = some rg ∧ wr.frozen? ⟨b, 2, none⟩ = false ∧ b < wr.heap.size ∧ wr.ownsRow B 81 1 rg T.rgs.length (ptrs gs) ∧
      ∀ (o : Obj) (w2 : World) (rg' : Value), (wr.alloc o).grownBy w2 rg.ownBlock → w2.ownsRow B 81 1 rg' (T.rgs.length + 1) (ptrs gs ++ [.pointer (some ⟨g0, 0, none⟩)]) →
        (∃ u, w2.cell? ⟨b, 2, none⟩ = some u) ∧ w2.frozen? ⟨b, 2, none⟩ = false ∧ TrAt B b (T.addR R) mr rv dl hp (w2.setCell ⟨b, 2, none⟩ rg') ∧ SgAt B v T.sing (w2.setCell ⟨b, 2, none⟩ rg') ∧ Chg B b w (w2.setCell ⟨b, 2, none⟩ rg') := by
  obtain ⟨q, m, rg, ho, hbB, hq, hm, gs, hgs, hg⟩ := h.tr
  rw [List.take_length] at hq hm hgs hg
  have hrg := (clear_keeps R.1 R.2.1 T.sing T).2.1
  have hsg := (clear_keeps R.1 R.2.1 T.sing T).1
  rw [hrg] at hgs hg
  refine ⟨rg, gs, by simp [World.cell?, ho], by simp [World.frozen?, ho], (Array.getElem?_eq_some_iff.1 ho).1, hgs, fun o w2 rg' hgr hown => ?_⟩
  have k1 : Kp (some ptrT) wr (wr.alloc o) := Kp.alloc _ _ _
  have hgs2 : (wr.alloc o).ownsRow B 81 1 rg T.rgs.length (ptrs gs) := World.ownsRow.alloc hgs o
  have k2 : Kp (some ptrT) wr w2 := k1.trans (Kp.row hgs2 hgr)
  have ho2 := k2 b _ ho (show (some trT : Option TypeId) ≠ some ptrT by decide)
  have k3 : Kp (some trT) w2 (w2.setCell ⟨b, 2, none⟩ rg') := Kp.set ho2 _ _
  refine ⟨⟨rg, by simp [World.cell?, ho2]⟩, by simp [World.frozen?, ho2], ?_, row_keep (row_keep h.sg k2 (by decide)) k3 (by decide), ?_⟩
  · refine ⟨q, m, rg', cells_set ho2 2 rg', hbB, (hq.keep k2 (by decide)).keep k3 (by decide), (hm.keep k2 (by decide)).keep k3 (by decide), gs ++ [g0], ?_, ?_⟩
    · rw [ptrs_snoc, addR_rgs, List.length_append]
      exact row_keep hown k3 (by decide)
    · have hlen : gs.length = T.rgs.length := by have := hgs.1; simp [ptrs] at this; omega
      intro i g Q hi hQ
      rw [addR_rgs] at hQ
      by_cases hlt : i < T.rgs.length
      · rw [List.getElem?_append_left (by omega)] at hi hQ
        obtain ⟨h1, h2⟩ := hg i g Q hi hQ
        exact ⟨h1, k3 _ _ (k2 _ _ h2 (show (some rngT : Option TypeId) ≠ some ptrT by decide)) (show (some rngT : Option TypeId) ≠ some trT by decide)⟩
      · rw [List.getElem?_append_right (by omega)] at hi hQ
        rw [hlen] at hi
        obtain ⟨j, hj⟩ : ∃ j, i - T.rgs.length = j := ⟨_, rfl⟩
        rw [hj] at hi hQ
        match j, hi, hQ with
        | 0, hi, hQ =>
          simp at hi hQ
          subst hi; subst hQ
          exact ⟨hg0, k3 _ _ (k2 _ _ h.bl (show (some rngT : Option TypeId) ≠ some ptrT by decide)) (show (some rngT : Option TypeId) ≠ some trT by decide)⟩
  · have hBw : B ≤ wr.heap.size := by rcases hgs.2 with ⟨_, h0⟩ | ⟨g, cap, cur, _, hBg, hh, _⟩
                                      · have := (Array.getElem?_eq_some_iff.1 h.bl).1; omega
                                      · have := (Array.getElem?_eq_some_iff.1 hh).1; omega
    exact (((h.ch.alloc hBw o).grown hgr (fun k hk => (hgs2.lt k hk).1) (by simp; omega)).set (.inr rfl) _)

set_option maxHeartbeats 3200000 in
set_option maxRecDepth 100000 in
theorem add_range_lt (B b : Nat) (T : Tr) (lo hi tlo thi : Int) (v mr rv dl hp : Value) (w : World) (hlt : lo < hi) (hB : B ≤ w.heap.size) (hok : T.Ok) (hT : TrAt B b T mr rv dl hp w) (hs : SgAt B v T.sing w) (hl : T.sing.length ≤ 1000000) (hl2 : T.rgs.length ≤ 1000000) :
    Calls Tryd.prog 43 #[.pointer (some ⟨b, 0, none⟩), .int .i32 lo, .int .i32 hi, .int .i32 tlo, .int .i32 thi, v] w fun e w' => e = .returned (.tuple #[.int .i32 hi, .int .i32 thi]) ∧ TrAt B b (T.addR (lo, hi, tlo, thi)) mr rv dl hp w' ∧ SgAt B v T.sing w' ∧ Chg B b w w' := by
  obtain ⟨i0, hi0, hz0, hz1, hz2⟩ := info_parts Tryd.infoP
  have hbB : b < B := by obtain ⟨_, _, _, _, h, _⟩ := hT; exact h
  obtain ⟨W, hW⟩ : ∃ W, w.alloc (.cells #[.int .i32 lo, .int .i32 hi, .int .i32 tlo, .int .i32 thi] 83) = W := ⟨_, rfl⟩
  have hsW : W.heap.size = w.heap.size + 1 := by rw [← hW]; simp
  have hR0 : Hid (Rng B b w.heap.size T (lo, hi, tlo, thi) 0 mr rv dl hp v w W) := by
    show Rng _ _ _ _ _ _ _ _ _ _ _ _ _
    rw [← hW]
    exact ⟨hT.below ((Below.refl _ _).alloc (Nat.le_refl _) _), hs.below ((Below.refl _ _).alloc (Nat.le_refl _) _), (Chg.refl B b w).alloc hB _, heap_alloc_new _ _⟩
  have HW := Lib.hid hW
  obtain ⟨ao, cap, hvv⟩ := owns_slice hs
  subst hvv
  clear hT hs hW
  go_enter Tryd.func43, Tryd.ntmps43
  go_wp2
  rw [HW.out]
  go_loopg [14, 33] (T.sing.length + 1) (fun gk r i wr => ∃ (k : Nat) (x : Int), r = .int .i32 x ∧ i = .int .i64 k ∧ k ≤ T.sing.length ∧ T.sing.length - k < gk ∧ Hid (Rng B b w.heap.size T (lo, hi, tlo, thi) k mr rv dl hp (.slice ao T.sing.length cap) w wr))
  case atStart => exact ⟨0, 0, rfl, rfl, Nat.zero_le _, by omega, hR0.out⟩
  case round =>
    obtain ⟨k, y, rfl, rfl, hk, hg, HR⟩ := hrel
    have hBw : B ≤ wr.heap.size := Nat.le_trans hB HR.out.ch.size
    by_cases hkl : k < T.sing.length
    · obtain ⟨x, hx⟩ : ∃ x, T.sing[k]? = some x := ⟨_, List.getElem?_eq_getElem hkl⟩
      have hmem : x ∈ T.sing := List.mem_of_getElem? hx
      have hcp := hok.sing x hmem
      unfold Cp at hcp
      obtain ⟨g, _, rfl⟩ := owns_some HR.out.sg (by omega)
      have ck : wr.cell? ⟨g, k, none⟩ = some (.int .i32 x) := by
        rw [World.ownsRow.cellAt HR.out.sg k (by omega)]
        simp [ints, hx]
      have cl : wr.cell? ⟨w.heap.size, 0, none⟩ = some (.int .i32 lo) := by simp [World.cell?, HR.out.bl, rngCells]
      have ch : wr.cell? ⟨w.heap.size, 1, none⟩ = some (.int .i32 hi) := by simp [World.cell?, HR.out.bl, rngCells]
      obtain ⟨gk, rfl⟩ : ∃ m, gk = m + 1 := ⟨gk - 1, by omega⟩
      have HX := Lib.hid hx
      clear hx
      by_cases h1 : lo ≤ x
      · by_cases h2 : x ≤ hi
        · by_cases h3 : x ≤ 127
          · obtain ⟨n, rfl⟩ : ∃ n : Nat, x = (n : Int) := ⟨x.toNat, by omega⟩
            obtain ⟨d, z1, z2, c0, c1, c2, f1, f2, hdb, hnew⟩ := HR.out.dict n HX.out ⟨h1, h2⟩ (by omega) (hok.dict _ hmem h3)
            have hb' : b ≠ d := fun e => hdb e.symm
            have HN := Lib.hid hnew
            clear hnew hdb hmem
            go_wp2
            go_roundg gk
            case rel => exact ⟨k + 1, _, rfl, by go_num, by omega, by omega, HN.out⟩
            case measure => omega
          · obtain ⟨j, n', D, c1, hM, hnew⟩ := HR.out.rmap x HX.out ⟨h1, h2⟩ h3 (hok.rmap _ hmem h3)
            have HN := Lib.hid hnew
            have hkey := Go.Maps.keyOf_int_mk Tryd.underlying21 (wf_cp (t := x) (by unfold Cp; omega))
            clear hnew hmem
            go_wp2_with (at_delete; refine wpList_delete_own _ rfl _ _ 58 21 rfl 21 (Go.Maps.int_keyed Tryd.underlying21) Tryd.underlying58 _ j n' D rfl hM _ _ rfl hkey ?_; intro w2 hown2 hturn2)
            have HN2 : Hid (Rng B b w.heap.size T (lo, hi, tlo, thi) (k + 1) mr rv dl hp (.slice (some ⟨g, 0, none⟩) T.sing.length cap) w w2) := HN.out w2 hown2 hturn2
            clear hM hown2 hturn2 c1 ck cl ch
            go_wp2
            go_roundg gk
            case rel => exact ⟨k + 1, _, rfl, by go_num, by omega, by omega, HN2.out⟩
            case measure => omega
        · have HN := Lib.hid (HR.out.same x HX.out (fun h => h2 h.2))
          clear hmem
          go_wp2
          go_roundg gk
          case rel => exact ⟨k + 1, _, rfl, by go_num, by omega, by omega, HN.out⟩
          case measure => omega
      · have HN := Lib.hid (HR.out.same x HX.out (fun h => h1 h.1))
        clear hmem
        go_wp2
        go_roundg gk
        case rel => exact ⟨k + 1, _, rfl, by go_num, by omega, by omega, HN.out⟩
        case measure => omega
    · have hkk : k = T.sing.length := by omega
      rw [hkk] at HR
      obtain ⟨rg, gs, c2, f2, hbl, hown, hend⟩ := HR.out.done hB
      have HE := Lib.hid hend
      clear hend hkk
      go_wp2_with (at_builtin; refine wpList_append_own _ rfl _ _ 59 rfl B 81 i0 (.pointer none) 1 8 Tryd.underlying59 hi0 hz0 hz1 hz2 rfl (by decide) rg T.rgs.length (ptrs gs) rfl ?c0 ⟨wr.heap.size, 0, none⟩ 1 1 [.pointer (some ⟨w.heap.size, 0, none⟩)] rfl rfl ?c1 ?c2 ?c3 ?c4 ?c5 ?_)
      case c0 => exact World.ownsRow.alloc hown _
      case c1 =>
        intro j u hj
        match j, hj with
        | 0, hj => simp at hj; subst hj; simp [Addr.add]
      case c2 => intro u hu; simp at hu; subst hu; rfl
      case c3 => unfold maxLen; omega
      case c4 => omega
      case c5 => simp; omega
      intro rg' w2 hown' hgrow _
      obtain ⟨ao2, cap2, rfl⟩ := owns_slice hown'
      obtain ⟨⟨u, cu⟩, fu, hend2⟩ := HE.out _ w2 _ hgrow hown'
      have HE2 := Lib.hid hend2
      clear hend2 hown' hgrow hown c2 f2
      go_wp2
      go_ret2
      exact ⟨rfl, HE2.out⟩

set_option maxHeartbeats 3200000 in
set_option maxRecDepth 100000 in
theorem add_range_ge (B b : Nat) (T : Tr) (lo hi tlo thi : Int) (v mr rv dl hp : Value) (w : World) (hlt : ¬ lo < hi) (hB : B ≤ w.heap.size) (hok : T.Ok) (hT : TrAt B b T mr rv dl hp w) (hs : SgAt B v T.sing w) (hl : T.sing.length ≤ 1000000) (hl2 : T.rgs.length ≤ 1000000) :
    Calls Tryd.prog 43 #[.pointer (some ⟨b, 0, none⟩), .int .i32 lo, .int .i32 hi, .int .i32 tlo, .int .i32 thi, v] w fun e w' => e = .returned (.tuple #[.int .i32 hi, .int .i32 thi]) ∧ TrAt B b (T.addR (hi, lo, thi, tlo)) mr rv dl hp w' ∧ SgAt B v T.sing w' ∧ Chg B b w w' := by
  obtain ⟨i0, hi0, hz0, hz1, hz2⟩ := info_parts Tryd.infoP
  have hbB : b < B := by obtain ⟨_, _, _, _, h, _⟩ := hT; exact h
  obtain ⟨W, hW⟩ : ∃ W, w.alloc (.cells #[.int .i32 hi, .int .i32 lo, .int .i32 thi, .int .i32 tlo] 83) = W := ⟨_, rfl⟩
  have hsW : W.heap.size = w.heap.size + 1 := by rw [← hW]; simp
  have hR0 : Hid (Rng B b w.heap.size T (hi, lo, thi, tlo) 0 mr rv dl hp v w W) := by
    show Rng _ _ _ _ _ _ _ _ _ _ _ _ _
    rw [← hW]
    exact ⟨hT.below ((Below.refl _ _).alloc (Nat.le_refl _) _), hs.below ((Below.refl _ _).alloc (Nat.le_refl _) _), (Chg.refl B b w).alloc hB _, heap_alloc_new _ _⟩
  have HW := Lib.hid hW
  obtain ⟨ao, cap, hvv⟩ := owns_slice hs
  subst hvv
  clear hT hs hW
  go_enter Tryd.func43, Tryd.ntmps43
  go_wp2
  rw [HW.out]
  go_loopg [14, 33] (T.sing.length + 1) (fun gk r i wr => ∃ (k : Nat) (x : Int), r = .int .i32 x ∧ i = .int .i64 k ∧ k ≤ T.sing.length ∧ T.sing.length - k < gk ∧ Hid (Rng B b w.heap.size T (hi, lo, thi, tlo) k mr rv dl hp (.slice ao T.sing.length cap) w wr))
  case atStart => exact ⟨0, 0, rfl, rfl, Nat.zero_le _, by omega, hR0.out⟩
  case round =>
    obtain ⟨k, y, rfl, rfl, hk, hg, HR⟩ := hrel
    have hBw : B ≤ wr.heap.size := Nat.le_trans hB HR.out.ch.size
    by_cases hkl : k < T.sing.length
    · obtain ⟨x, hx⟩ : ∃ x, T.sing[k]? = some x := ⟨_, List.getElem?_eq_getElem hkl⟩
      have hmem : x ∈ T.sing := List.mem_of_getElem? hx
      have hcp := hok.sing x hmem
      unfold Cp at hcp
      obtain ⟨g, _, rfl⟩ := owns_some HR.out.sg (by omega)
      have ck : wr.cell? ⟨g, k, none⟩ = some (.int .i32 x) := by
        rw [World.ownsRow.cellAt HR.out.sg k (by omega)]
        simp [ints, hx]
      have cl : wr.cell? ⟨w.heap.size, 0, none⟩ = some (.int .i32 hi) := by simp [World.cell?, HR.out.bl, rngCells]
      have ch : wr.cell? ⟨w.heap.size, 1, none⟩ = some (.int .i32 lo) := by simp [World.cell?, HR.out.bl, rngCells]
      obtain ⟨gk, rfl⟩ : ∃ m, gk = m + 1 := ⟨gk - 1, by omega⟩
      have HX := Lib.hid hx
      clear hx
      by_cases h1 : hi ≤ x
      · by_cases h2 : x ≤ lo
        · by_cases h3 : x ≤ 127
          · obtain ⟨n, rfl⟩ : ∃ n : Nat, x = (n : Int) := ⟨x.toNat, by omega⟩
            obtain ⟨d, z1, z2, c0, c1, c2, f1, f2, hdb, hnew⟩ := HR.out.dict n HX.out ⟨h1, h2⟩ (by omega) (hok.dict _ hmem h3)
            have hb' : b ≠ d := fun e => hdb e.symm
            have HN := Lib.hid hnew
            clear hnew hdb hmem
            go_wp2
            go_roundg gk
            case rel => exact ⟨k + 1, _, rfl, by go_num, by omega, by omega, HN.out⟩
            case measure => omega
          · obtain ⟨j, n', D, c1, hM, hnew⟩ := HR.out.rmap x HX.out ⟨h1, h2⟩ h3 (hok.rmap _ hmem h3)
            have HN := Lib.hid hnew
            have hkey := Go.Maps.keyOf_int_mk Tryd.underlying21 (wf_cp (t := x) (by unfold Cp; omega))
            clear hnew hmem
            go_wp2_with (at_delete; refine wpList_delete_own _ rfl _ _ 58 21 rfl 21 (Go.Maps.int_keyed Tryd.underlying21) Tryd.underlying58 _ j n' D rfl hM _ _ rfl hkey ?_; intro w2 hown2 hturn2)
            have HN2 : Hid (Rng B b w.heap.size T (hi, lo, thi, tlo) (k + 1) mr rv dl hp (.slice (some ⟨g, 0, none⟩) T.sing.length cap) w w2) := HN.out w2 hown2 hturn2
            clear hM hown2 hturn2 c1 ck cl ch
            go_wp2
            go_roundg gk
            case rel => exact ⟨k + 1, _, rfl, by go_num, by omega, by omega, HN2.out⟩
            case measure => omega
        · have HN := Lib.hid (HR.out.same x HX.out (fun h => h2 h.2))
          clear hmem
          go_wp2
          go_roundg gk
          case rel => exact ⟨k + 1, _, rfl, by go_num, by omega, by omega, HN.out⟩
          case measure => omega
      · have HN := Lib.hid (HR.out.same x HX.out (fun h => h1 h.1))
        clear hmem
        go_wp2
        go_roundg gk
        case rel => exact ⟨k + 1, _, rfl, by go_num, by omega, by omega, HN.out⟩
        case measure => omega
    · have hkk : k = T.sing.length := by omega
      rw [hkk] at HR
      obtain ⟨rg, gs, c2, f2, hbl, hown, hend⟩ := HR.out.done hB
      have HE := Lib.hid hend
      clear hend hkk
      go_wp2_with (at_builtin; refine wpList_append_own _ rfl _ _ 59 rfl B 81 i0 (.pointer none) 1 8 Tryd.underlying59 hi0 hz0 hz1 hz2 rfl (by decide) rg T.rgs.length (ptrs gs) rfl ?c0 ⟨wr.heap.size, 0, none⟩ 1 1 [.pointer (some ⟨w.heap.size, 0, none⟩)] rfl rfl ?c1 ?c2 ?c3 ?c4 ?c5 ?_)
      case c0 => exact World.ownsRow.alloc hown _
      case c1 =>
        intro j u hj
        match j, hj with
        | 0, hj => simp at hj; subst hj; simp [Addr.add]
      case c2 => intro u hu; simp at hu; subst hu; rfl
      case c3 => unfold maxLen; omega
      case c4 => omega
      case c5 => simp; omega
      intro rg' w2 hown' hgrow _
      obtain ⟨ao2, cap2, rfl⟩ := owns_slice hown'
      obtain ⟨⟨u, cu⟩, fu, hend2⟩ := HE.out _ w2 _ hgrow hown'
      have HE2 := Lib.hid hend2
      clear hend2 hown' hgrow hown c2 f2
      go_wp2
      go_ret2
      exact ⟨rfl, HE2.out⟩

/-- A RANGE OF THE FIRST PATTERN GETS ITS RANGE. -/
theorem add_range (B b : Nat) (T : Tr) (lo hi tlo thi : Int) (v mr rv dl hp : Value) (w : World) (hB : B ≤ w.heap.size) (hok : T.Ok) (hT : TrAt B b T mr rv dl hp w) (hs : SgAt B v T.sing w) (hl : T.sing.length ≤ 1000000) (hl2 : T.rgs.length ≤ 1000000) :
    Calls Tryd.prog 43 #[.pointer (some ⟨b, 0, none⟩), .int .i32 lo, .int .i32 hi, .int .i32 tlo, .int .i32 thi, v] w fun e w' => e = .returned (.tuple #[.int .i32 hi, .int .i32 thi]) ∧ TrAt B b (T.addRange lo hi tlo thi) mr rv dl hp w' ∧ SgAt B v (T.addRange lo hi tlo thi).sing w' ∧ Chg B b w w' := by
  rw [addRange_sing]
  unfold Tr.addRange ordR
  by_cases h : lo < hi
  · rw [if_pos h]; exact add_range_lt B b T lo hi tlo thi v mr rv dl hp w h hB hok hT hs hl hl2
  · rw [if_neg h]; exact add_range_ge B b T lo hi tlo thi v mr rv dl hp w h hB hok hT hs hl hl2

end Go.Proofs.YtbomlhhpokknaaaDoor
