/- godotenv.Marshal of a map of few entries: its walk. Conditions: the sizes, and the tables that are laid. -/
import Derived.Test.YtmmnljepbnifnaaDoorEMar
import Derived.Laws.MakeOwn
namespace Go.Proofs.YtmmnljepbnifnaaDoor
open Go.RowKit U8 Go.Sort
open Go.Lib hiding intOf

theorem row_apart {B n : Nat} {v : Value} {xs : List Value} {w : World} (h : w.ownsRow B 9 1 v n xs) {G m : Nat} {es rem : Es} (hr : RG G m es rem w) : v.ownBlock ≠ some m ∧ v.ownBlock ≠ some G := by
  obtain ⟨arr, c, s, sn, c0, h1, _, _, _, _, _, h7, _⟩ := hr
  exact ⟨own_ne_other h (fun x fz e => by rw [h1] at e; cases e), own_ne_other h (fun x fz e => by rw [h7] at e; cases e)⟩
theorem kvV_app (a b : KVs) : kvV (a ++ b) = kvV a ++ kvV b := by simp [kvV]
theorem kvV_mem {kv : KVs} {p : List UInt8 × List UInt8} (h : (Value.string (txt p.1), Value.string (txt p.2)) ∈ kvV kv) : p ∈ kv := by
  obtain ⟨q, hq, e⟩ := List.mem_map.1 h
  simp only [Prod.mk.injEq, Value.string.injEq] at e
  have : q = p := Prod.ext (txt_inj e.1) (txt_inj e.2)
  exact this ▸ hq
theorem perm_step {L A B C : List (List UInt8)} {x : List UInt8} (h : (L ++ (A ++ x :: B)).Perm C) : ((L ++ [x]) ++ (A ++ B)).Perm C := by
  refine List.Perm.trans ?_ h
  rw [List.append_assoc]
  refine List.Perm.append_left L ?_
  show (x :: (A ++ B)).Perm _
  exact List.perm_middle.symm

set_option maxHeartbeats 3200000 in
set_option maxRecDepth 100000 in
theorem marshal_any (m : Nat) (kv : KVs) (w : World) (h : MB m (kvV kv) w) (hl : kv.length ≤ 100) (hz : ∀ p ∈ kv, p.1.length ≤ 2147483647 ∧ p.2.length ≤ 2147483647) (hT : Et w) :
    Calls Tryd.prog 22 #[.map (some m)] w fun e w' => e = .returned (.tuple #[.string (txt (wrE kv)), .nilIface]) ∧ Below w.heap.size w w' := by
  obtain ⟨i0, hi, hz0, hz1, hz2⟩ := info_parts Tryd.infoStr
  have hlen := fun ty => len_mb h Tryd.underlying45 ty
  rw [show (kvV kv).length = kv.length by simp [kvV]] at hlen
  obtain ⟨w2, hmk, hown0, hgr⟩ := run_make_own (P := Tryd.prog) w w.heap.size 25 9 i0 (.string ⟨#[]⟩) 1 Tryd.underlying25 hi hz0 hz1 .i64 .i64 kv.length (by rw [hz2]; omega) (by unfold maxLen; omega) (Nat.le_refl _)
  have hB2 : Below w.heap.size w w2 := (Below.refl _ w).grown hgr (Nat.le_refl _) (fun k hk => by cases hk)
  have HM := Lib.hid (h.below hB2)
  have HZ := Lib.hid hz
  have HT0 := Lib.hid hT
  have HB2 := Lib.hid hB2
  have HW0 := Lib.hid hown0
  have hml := h.lt
  have hs2 := hB2.size
  clear h hz hT hgr hB2 hown0
  go_enter Tryd.func22, Tryd.ntmps22
  go_upto_region 2 with fail
  clear hlen hmk
  go_wp2_with (at_range; refine wpList_range_mb rfl _ _ rfl 9 9 Tryd.underlying45 m (kvV kv) rfl HM.out ?_)
  intro w3 hrg hb3 hs3
  have HRG := Lib.hid hrg
  have HB3 := Lib.hid hb3
  have HW3 : Hid (w3.ownsRow w.heap.size 9 1 (.slice (some ⟨w.heap.size, 0, none⟩) 0 kv.length) 0 (strsV [])) := owns_below HW0.out hb3
  clear hrg hb3 HM HW0
  obtain ⟨G, hG⟩ : ∃ G, w2.heap.size = G := ⟨_, rfl⟩
  rw [hG] at HRG hs3 ⊢
  have hGB : w.heap.size ≤ G := by omega
  have HB30 : Hid (Below w.heap.size w w3) := HB2.out.trans (HB3.out.mono hs2)
  clear hG HB2 HB3
  go_wp2
  go_loopg [4, 5, 6, 7, 8] (kv.length + 1) (fun gk v4 v5 v6 v7 v8 wr => ∃ (rem : KVs) (L : List (List UInt8)) (ao : Option Addr) (cap : Nat), v4 = .slice ao L.length cap ∧ rem.length < gk ∧ L.length + rem.length ≤ 100 ∧ Hid (RG G m (kvV kv) (kvV rem) wr) ∧ Hid ((L ++ rem.map lineE).Perm (kv.map lineE)) ∧ Hid (wr.ownsRow w.heap.size 9 1 (.slice ao L.length cap) L.length (strsV L)) ∧ Hid (Below w.heap.size w wr))
  case atStart => exact ⟨kv, [], _, _, rfl, by omega, by simp; omega, HRG.out, List.Perm.refl _, HW3.out, HB30.out⟩
  case round =>
    obtain ⟨rem, L, ao, cap, rfl, hg, hlr, HR, HP, HW, HB⟩ := hrel
    have hbs := HB.out.size
    go_wp2_with (at_next; refine wpList_next_mb rfl _ rfl G m (kvV kv) (kvV rem) rfl HR.out w.heap.size hGB ?_ ?_)
    · intro hrem
      have hr0 : rem = [] := by simpa [kvV] using hrem
      subst hr0
      have hperm : L.Perm (kv.map lineE) := by have := HP.out; simpa using this
      have hJ : join (L.mergeSort fun x y => decide (x ≤ y)) [10] = wrE kv := by unfold wrE; rw [mergeSort_of_perm hperm]
      have hJl : (wrE kv).length ≤ 140737488355328 := by
        have hp2 : ∀ x ∈ (kv.map lineE).mergeSort (fun x y => decide (x ≤ y)), x.length ≤ 277025390493 := by
          intro x hx
          rw [List.mem_mergeSort] at hx
          obtain ⟨p, hp, rfl⟩ := List.mem_map.1 hx
          obtain ⟨h1, h2⟩ := HZ.out p hp
          have := lineE_len p
          omega
        have := join_len _ _ hp2
        rw [List.length_mergeSort, List.length_map] at this
        unfold wrE
        omega
      have HJ := Lib.hid hJ
      clear hrem hperm hJ
      go_wp2_with fail
      refine (sort_own w.heap.size ao cap L wr HW.out (by omega)).mono ?_
      rintro e w4 ⟨rfl, hown4, hb4, hk4⟩
      have hS : (L.mergeSort fun x y => decide (x ≤ y)).length = L.length := by rw [List.length_mergeSort]
      have cJ := join_own w.heap.size ao cap (L.mergeSort fun x y => decide (x ≤ y)) w4 (by rw [hS]; exact hown4) (by rw [hS]; omega) (by rw [HJ.out]; exact hJl)
      rw [hS, HJ.out] at cJ
      have CJ := Lib.hid cJ
      have HB4 := Lib.hid (HB.out.trans hb4)
      have hs4 := HB4.out.size
      clear hown4 hb4 hk4 hS cJ HJ
      go_wp2_with fail
      refine CJ.out.mono ?_
      rintro e w5 ⟨rfl, hb5⟩
      have HB5 := Lib.hid (HB4.out.trans (hb5.mono hs4))
      clear hb5
      go_wp2
      go_ret2
      exact ⟨rfl, HB5.out⟩
    · intro l1 l2 key v w4 hrem hmem hrg4 hb4 hk4 hs4 hen
      obtain ⟨r1, p, r2, rfl, rfl, rfl, rfl, rfl⟩ := kvV_split hrem
      obtain ⟨hz1p, hz2p⟩ := HZ.out p (kvV_mem hmem)
      obtain ⟨hm1, hm2⟩ := row_apart HW.out HR.out
      have HR4 : Hid (RG G m (kvV kv) (kvV (r1 ++ r2)) w4) := by show RG _ _ _ _ _; rw [kvV_app]; exact hrg4
      have HW4 : Hid (w4.ownsRow w.heap.size 9 1 (.slice ao L.length cap) L.length (strsV L)) := owns_of (w := wr) HW.out fun g hg => hk4 g (fun e => hm2 (by rw [hg, e]))
      have HB4 := Lib.hid (HB.out.trans hb4)
      have hbs4 := HB4.out.size
      have HP4 : Hid (((L ++ [lineE p]) ++ (r1 ++ r2).map lineE).Perm (kv.map lineE)) := by
        show List.Perm _ _
        have := HP.out
        rw [List.map_append, List.map_cons] at this
        rw [List.map_append]
        exact perm_step this
      obtain ⟨gk, rfl⟩ : ∃ m, gk = m + 1 := ⟨gk - 1, by omega⟩
      rw [List.length_append, List.length_cons] at hg hlr
      have hts := txt_size p.1
      have htt := txt_size p.2
      have hll : (lineE p).length ≤ 277025390493 := by have := lineE_len p; omega
      clear hrem hmem hrg4 hb4 hk4 hs4 HR HW HP HB hm1 hm2 hbs
      go_wp2_with fail
      refine (atoi_any p.2 w4 hz2p (HT0.out.below HB4.out)).mono ?_
      rintro e w5 ⟨hb5, ⟨d, hd, rfl⟩ | ⟨d, t, pv, _, hline, rfl⟩⟩
      · obtain ⟨hd0, hd1⟩ := atoi_int hd
        have hline : lineE p = p.1 ++ [61] ++ itoa d := by unfold lineE; rw [hd]
        have HB5 := Lib.hid (HB4.out.trans (hb5.mono hbs4))
        have HR5 := Lib.hid (HR4.out.below hb5)
        have HW5 := Lib.hid (owns_below HW4.out hb5)
        have hbs5 := HB5.out.size
        have CI : Hid (Calls Tryd.prog 33 #[.int .i64 d] w5 fun e w' => e = .returned (.string (txt (itoa d))) ∧ Below w5.heap.size w5 w') := by
          refine (Tryd.strconv_Itoa d hd0 hd1 w5 (HT0.out.below HB5.out).pow).mono ?_
          rintro e w' ⟨rfl, k, os, rfl⟩
          exact ⟨rfl, below_grow _ _ (Nat.le_refl _) _ _⟩
        have hzi := itoa_length_le d hd0 hd1
        have hti := txt_size (itoa d)
        have z1 : (txt p.1 ++ ⟨#[61]⟩).size = p.1.length + 1 := by rw [show (⟨#[61]⟩ : ByteArray) = txt [61] from rfl, txt_append, txt_size, List.length_append]; rfl
        have HL : Hid (txt p.1 ++ ⟨#[61]⟩ ++ txt (itoa d) = txt (lineE p)) := by show _ = _; rw [hline, show (⟨#[61]⟩ : ByteArray) = txt [61] from rfl, txt_append, txt_append]
        clear hd hline hb5 HR4 HW4
        go_wp2_with fail
        refine CI.out.mono ?_
        rintro e w6 ⟨rfl, hb6⟩
        have HB6 := Lib.hid (HB5.out.trans (hb6.mono hbs5))
        have HR6 := Lib.hid (HR5.out.below hb6)
        have HW6 := Lib.hid (owns_below HW5.out hb6)
        have hbs6 := HB6.out.size
        clear hb6 CI HR5 HW5
        go_wp2_with (at_builtin; refine wpList_app1 rfl _ _ 25 9 rfl i0 (.string ⟨#[]⟩) 16 Tryd.underlying25 hi hz0 hz1 hz2 rfl w.heap.size _ L.length _ rfl HW6.out _ rfl rfl (by omega) (by omega) hbs6 ?_)
        intro ao2 cap2 w7 hown7 hb7 hkeep7
        obtain ⟨hm1, hm2⟩ := row_apart HW6.out HR6.out
        have HR7 := Lib.hid (HR6.out.of (hkeep7 m HR6.out.lt.1 hm1) (hkeep7 G HR6.out.lt.2 hm2))
        have HW7 : Hid (w7.ownsRow w.heap.size 9 1 (.slice ao2 (L ++ [lineE p]).length cap2) (L ++ [lineE p]).length (strsV (L ++ [lineE p]))) := by
          show World.ownsRow _ _ _ _ _ _ _
          rw [HL.out] at hown7
          rw [List.length_append, show strsV (L ++ [lineE p]) = strsV L ++ [.string (txt (lineE p))] by simp [strsV]]
          exact hown7
        have HB7 := Lib.hid (HB6.out.trans hb7)
        clear hown7 hb7 hkeep7 hm1 hm2
        go_wp2
        go_roundg gk
        case rel => exact ⟨r1 ++ r2, L ++ [lineE p], ao2, cap2, by rw [List.length_append]; rfl, by rw [List.length_append]; omega, by rw [List.length_append, List.length_append, List.length_singleton]; omega, HR7.out, HP4.out, HW7.out, HB7.out⟩
        case measure => omega
      · have HB5 := Lib.hid (HB4.out.trans (hb5.mono hbs4))
        have HR5 := Lib.hid (HR4.out.below hb5)
        have HW5 := Lib.hid (owns_below HW4.out hb5)
        have hbs5 := HB5.out.size
        have CE := Lib.hid (esc_any p.2 w5 (by omega))
        have hle := hline p.1
        have hle2 : lineE p = p.1 ++ [61, 34] ++ escD p.2 ++ [34] := hle
        have hel : p.1.length + (escD p.2).length + 3 = (lineE p).length := by rw [hle2]; simp; omega
        have hti := txt_size (escD p.2)
        have z1 : (txt p.1 ++ ⟨#[61, 34]⟩).size = p.1.length + 2 := by rw [show (⟨#[61, 34]⟩ : ByteArray) = txt [61, 34] from rfl, txt_append, txt_size, List.length_append]; rfl
        have z2 : (txt p.1 ++ ⟨#[61, 34]⟩ ++ txt (escD p.2)).size = p.1.length + 2 + (escD p.2).length := by rw [show (⟨#[61, 34]⟩ : ByteArray) = txt [61, 34] from rfl, txt_append, txt_append, txt_size, List.length_append, List.length_append]; rfl
        have HL : Hid (txt p.1 ++ ⟨#[61, 34]⟩ ++ txt (escD p.2) ++ ⟨#[34]⟩ = txt (lineE p)) := by show _ = _; rw [hle2, show (⟨#[61, 34]⟩ : ByteArray) = txt [61, 34] from rfl, show (⟨#[34]⟩ : ByteArray) = txt [34] from rfl, txt_append, txt_append, txt_append]
        clear hline hle hle2 hb5 HR4 HW4
        go_wp2_with fail
        refine CE.out.mono ?_
        rintro e w6 ⟨rfl, hb6⟩
        have HB6 := Lib.hid (HB5.out.trans (hb6.mono hbs5))
        have HR6 := Lib.hid (HR5.out.below hb6)
        have HW6 := Lib.hid (owns_below HW5.out hb6)
        have hbs6 := HB6.out.size
        clear hb6 CE HR5 HW5
        go_wp2_with (at_builtin; refine wpList_app1 rfl _ _ 25 9 rfl i0 (.string ⟨#[]⟩) 16 Tryd.underlying25 hi hz0 hz1 hz2 rfl w.heap.size _ L.length _ rfl HW6.out _ rfl rfl (by omega) (by omega) hbs6 ?_)
        intro ao2 cap2 w7 hown7 hb7 hkeep7
        obtain ⟨hm1, hm2⟩ := row_apart HW6.out HR6.out
        have HR7 := Lib.hid (HR6.out.of (hkeep7 m HR6.out.lt.1 hm1) (hkeep7 G HR6.out.lt.2 hm2))
        have HW7 : Hid (w7.ownsRow w.heap.size 9 1 (.slice ao2 (L ++ [lineE p]).length cap2) (L ++ [lineE p]).length (strsV (L ++ [lineE p]))) := by
          show World.ownsRow _ _ _ _ _ _ _
          rw [HL.out] at hown7
          rw [List.length_append, show strsV (L ++ [lineE p]) = strsV L ++ [.string (txt (lineE p))] by simp [strsV]]
          exact hown7
        have HB7 := Lib.hid (HB6.out.trans hb7)
        clear hown7 hb7 hkeep7 hm1 hm2
        go_wp2
        go_roundg gk
        case rel => exact ⟨r1 ++ r2, L ++ [lineE p], ao2, cap2, by rw [List.length_append]; rfl, by rw [List.length_append]; omega, by rw [List.length_append, List.length_append, List.length_singleton]; omega, HR7.out, HP4.out, HW7.out, HB7.out⟩
        case measure => omega
end Go.Proofs.YtmmnljepbnifnaaDoor
