/- Map, Keys, GetComments, Get of a set of properties in memory. Condition: the number of keys. -/
import Derived.Test.YtdfhidnhkeapbaaGreatDoorLxLoad
import Derived.Laws.CopyOwn
namespace Go.Proofs.YtdfhidnhkeapbaaGreatDoor
open Go.RowKit U8
open Go.Lib hiding intOf

def eV (kv : KV2) : Es := kv.map fun p => (Value.string (txt p.1), Value.string (txt p.2))
theorem kvW_sV (kv : KV2) : kvW (sV kv) = eV kv := by unfold kvW sV eV; rw [List.map_map]; rfl
theorem eV_split {kv : KV2} {l1 l2 : Es} {k v : Value} (h : eV kv = l1 ++ (k, v) :: l2) : ∃ r1 p r2, kv = r1 ++ p :: r2 ∧ l1 = eV r1 ∧ l2 = eV r2 ∧ k = .string (txt p.1) ∧ v = .string (txt p.2) := by
  unfold eV at h
  obtain ⟨r1, r2, rfl, h1, h2⟩ := List.map_eq_append_iff.1 h
  obtain ⟨p, r3, rfl, h3, h4⟩ := List.map_eq_cons_iff.1 h2
  simp only [Prod.mk.injEq] at h3
  exact ⟨r1, p, r3, rfl, h1.symm, h4.symm, h3.1.symm, h3.2.symm⟩
set_option maxHeartbeats 1600000 in
set_option maxRecDepth 100000 in
theorem map_any (B b m cb : Nat) (d : Bool) (kv : KV2) (cs : CS2) (w : World) (h : Po B b m cb d kv cs w) :
    Calls Tryz.prog 31 #[.pointer (some ⟨b, 0, none⟩)] w fun e w' => ∃ x acc, e = .returned (.map (some x)) ∧ w.heap.size ≤ x ∧ MB x (eV acc) w' ∧ acc.Perm kv ∧ Below w.heap.size w w' := by
  obtain ⟨_, _, _, _, vk, vc, ho, hm, hn, _⟩ := h
  rw [kvW_sV] at hm
  have hmm := @run_makeMap Tryz.prog
  have d3 : w.cell? ⟨b, 3, none⟩ = some (.map (some m)) := by simp [World.cell?, ho]
  have hbl := lt_of_some ho
  have hml := hm.lt
  have HM2 : Hid (MB m (eV kv) (w.alloc (.map #[] 0))) := hm.of (al_old _ _ _ hml)
  have HX2 : Hid (MB w.heap.size (eV []) (w.alloc (.map #[] 0))) := mb_new (al_new w (.map #[] 0) _ rfl)
  have HB2 : Hid (Below w.heap.size w (w.alloc (.map #[] 0))) := (Below.refl _ _).alloc (Nat.le_refl _) _
  have HN := Lib.hid hn
  clear ho hm hn
  go_enter Tryz.func31, Tryz.ntmps31
  go_wp2_with (at_range; refine wpList_range_mb rfl _ _ rfl 9 9 Tryz.underlying60 m (eV kv) rfl HM2.out ?_)
  intro w3 hrg hb3 hs3
  have hX3 : MB w.heap.size (eV []) w3 := HX2.out.of (hb3.block _ (by omega))
  have HB3 : Hid (Below w.heap.size w w3) := HB2.out.trans (hb3.mono (by omega))
  have hGX : w.heap.size ≠ w.heap.size + 1 := by omega
  have hGB : w.heap.size ≤ w.heap.size + 1 := by omega
  have hXm : w.heap.size ≠ m := by omega
  have HRG := Lib.hid hrg
  have HX3 := Lib.hid hX3
  clear hrg hb3 hs3 hX3 HM2 HX2 HB2 d3 hmm hml hbl
  generalize w.heap.size + 1 = G at *
  go_wp2
  go_loopg [4, 5] (kv.length + 1) (fun gk v4 v5 wr => ∃ (rem acc : KV2), rem.length < gk ∧ Hid (RG G m (eV kv) (eV rem) wr) ∧ Hid (MB w.heap.size (eV acc) wr) ∧ Hid ((acc ++ rem).Perm kv) ∧ Hid (Below w.heap.size w wr))
  case atStart => exact ⟨kv, [], by omega, HRG.out, HX3.out, List.Perm.refl _, HB3.out⟩
  case round =>
    obtain ⟨rem, acc, hg, HR, HX, HP, HB⟩ := hrel
    go_wp2_with (at_next; refine wpList_next_mb rfl _ rfl G m (eV kv) (eV rem) rfl HR.out w.heap.size hGB ?_ ?_)
    · intro hrem
      have hr0 : rem = [] := by simpa [eV] using hrem
      subst hr0
      have HP2 : Hid (acc.Perm kv) := by show List.Perm _ _; simpa using HP.out
      clear hrem
      go_wp2
      go_ret
      exact ⟨_, acc, rfl, Nat.le_refl _, HX.out, HP2.out, HB.out⟩
    · intro l1 l2 key v w4 hrem hmem hrg4 hb4 hk4 hs4 hen
      obtain ⟨r1, p, r2, rfl, rfl, rfl, rfl, rfl⟩ := eV_split hrem
      have hnd : ((acc ++ (r1 ++ p :: r2)).map Prod.fst).Nodup := (HP.out.map Prod.fst).nodup_iff.2 HN.out
      have hna : ¬ p.1 ∈ acc.map Prod.fst := by
        rw [List.map_append, List.nodup_append] at hnd
        exact fun hm => hnd.2.2 _ hm p.1 (by simp) rfl
      have hx4 : MB w.heap.size (kvW (sV acc)) w4 := by rw [kvW_sV]; exact HX.out.of (hk4 _ hGX)
      obtain ⟨w5, hmu, hM5, hk5, hs5, hb5⟩ := putw (P := Tryz.prog) 60 9 9 w.heap.size (sV acc) (p.1, .string (txt p.2)) w.heap.size (Nat.le_refl _) Tryz.underlying60 Tryz.underlying9 hx4 (by
        rw [sV_fst]
        rw [List.map_append, List.nodup_append] at hnd
        exact hnd.1)
      have HX5 : Hid (MB w.heap.size (eV (acc ++ [p])) w5) := by
        have e : updA (sV acc) (p.1, .string (txt p.2)) = sV (acc ++ [p]) := by
          unfold updA
          rw [if_neg (by rw [sV_fst]; exact hna)]
          simp [sV]
        rw [e, kvW_sV] at hM5
        exact hM5
      have HR5 : Hid (RG G m (eV kv) (eV (r1 ++ r2)) w5) := by
        have e : eV (r1 ++ r2) = eV r1 ++ eV r2 := by simp [eV]
        show RG _ _ _ _ _
        rw [e]
        exact hrg4.of (hk5 _ hXm.symm) (hk5 _ hGX.symm)
      have HP5 : Hid (((acc ++ [p]) ++ (r1 ++ r2)).Perm kv) := by
        show List.Perm _ _
        refine List.Perm.trans ?_ HP.out
        rw [List.append_assoc]
        refine List.Perm.append_left acc ?_
        show (p :: (r1 ++ r2)).Perm _
        exact List.perm_middle.symm
      have HB5 := Lib.hid ((HB.out.trans hb4).trans hb5)
      obtain ⟨gk, rfl⟩ : ∃ m, gk = m + 1 := ⟨gk - 1, by omega⟩
      rw [List.length_append, List.length_cons] at hg
      clear hrem hmem hrg4 hb4 hk4 hs4 HR HX HP HB hM5 hk5 hs5 hb5 hx4 hnd hna
      go_wp2
      go_roundg gk
      case rel => exact ⟨r1 ++ r2, acc ++ [p], by rw [List.length_append]; omega, HR5.out, HX5.out, HP5.out, HB5.out⟩
      case measure => omega
theorem Tx.of_own {B : Nat} {v : Value} {l : List (List UInt8)} {w : World} (h : w.ownsRow B 9 1 v l.length (strsV l)) : Tx w v l := tx_own h
set_option maxHeartbeats 1600000 in
set_option maxRecDepth 100000 in
theorem keys_any (B b m cb : Nat) (d : Bool) (kv : KV2) (cs : CS2) (w : World) (h : Po B b m cb d kv cs w) (hl : kv.length ≤ 1000000) :
    Calls Tryz.prog 32 #[.pointer (some ⟨b, 0, none⟩)] w fun e w' => ∃ g, e = .returned (.slice (some ⟨g, 0, none⟩) (kv.map Prod.fst).length (kv.map Prod.fst).length) ∧ w'.heap[g]? = some (.cells (strsV (kv.map Prod.fst)).toArray 9 (0, 0)) ∧ w.heap.size ≤ g ∧ Below w.heap.size w w' := by
  obtain ⟨_, _, _, _, vk, vc, ho, _, _, _, _, hown⟩ := h
  obtain ⟨i0, hi, hz0, hz1, hz2⟩ := info_parts Tryz.infoStr
  obtain ⟨K, hK⟩ : ∃ K, kv.map Prod.fst = K := ⟨_, rfl⟩
  have hkl : K.length ≤ 1000000 := by rw [← hK, List.length_map]; exact hl
  rw [hK] at hown ⊢
  clear hl hK
  obtain ⟨w2, hmk, hown0, hgr⟩ := run_make_full (P := Tryz.prog) w w.heap.size 34 9 i0 (.string ⟨#[]⟩) 1 Tryz.underlying34 hi hz0 hz1 .i64 .i64 K.length (by rw [hz2]; omega) (by unfold maxLen; omega) (Nat.le_refl _)
  have hB2 : Below w.heap.size w w2 := (Below.refl _ w).grown hgr (Nat.le_refl _) (fun k hk => by cases hk)
  have d5 : w.cell? ⟨b, 5, none⟩ = some vk := by simp [World.cell?, ho]
  have d52 : w2.cell? ⟨b, 5, none⟩ = some vk := (hB2.cell (p := ⟨b, 5, none⟩) (lt_of_some ho)).trans d5
  have hown2 : w2.ownsRow B 9 1 vk K.length (strsV K) := owns_below hown hB2
  obtain ⟨cur, hcur, hcl⟩ : ∃ cur : List Value, w2.heap[w.heap.size]? = some (.cells cur.toArray 9 (0, 0)) ∧ cur.length = K.length := by
    rcases hown0.2 with ⟨e, _⟩ | ⟨g, cap, cur, e, _, hg, _, _, hcs, _⟩
    · cases e
    · cases e
      exact ⟨cur.toList, hg, by simpa using hcs⟩
  obtain ⟨ao, cap, rfl⟩ := owns_slice hown2
  have hcells : ∀ j (u : Value), (strsV K)[j]? = some u → ∃ ad, ao = some ad ∧ w2.cell? (ad.add j) = some u := by
    intro j u hj
    rcases hown2.2 with ⟨e, h0⟩ | ⟨g, cap, cur, e, _⟩
    · have := (List.getElem?_eq_some_iff.1 hj).1
      unfold strsV at this
      rw [List.length_map] at this
      omega
    · have hoa : ao = some ⟨g, 0, none⟩ := by cases e; rfl
      exact ⟨_, hoa, World.ownsRow.cells hown2 (by rw [e]; rfl) j u hj⟩
  have hone : ∀ u ∈ strsV K, u.oneCell' = true := by
    intro u hu
    unfold strsV at hu
    obtain ⟨x, _, rfl⟩ := List.mem_map.1 hu
    rfl
  have hsl : (strsV K).length = K.length := by unfold strsV; rw [List.length_map]
  have hspl : splice cur 0 (strsV K) = strsV K := by
    unfold splice
    rw [List.take_zero, List.nil_append, Nat.zero_add, hsl, ← hcl, List.drop_length, List.append_nil]
  obtain ⟨z, w3, hcp, hnew, hb3⟩ : ∃ z w3, (Builtin.copy_ #[34, 34] 3 #[.slice (some ⟨w.heap.size, 0, none⟩) K.length K.length, .slice ao K.length cap]).run Tryz.prog w2 = .ok z w3 ∧ w3.heap[w.heap.size]? = some (.cells (splice cur 0 (strsV K)).toArray 9 (0, 0)) ∧ Below w.heap.size w w3 := by
    by_cases h0 : K.length = 0
    · have hrun := run_copy_none (P := Tryz.prog) w2 34 34 3 9 (some ⟨w.heap.size, 0, none⟩) ao K.length K.length K.length cap Tryz.underlying34 (by kernel_rfl) (by rw [h0]; rfl)
      refine ⟨_, w2, hrun, ?_, hB2⟩
      rw [hspl, hcur]
      obtain rfl : K = [] := List.eq_nil_of_length_eq_zero h0
      obtain rfl : cur = [] := List.eq_nil_of_length_eq_zero hcl
      rfl
    · have h00 : 0 < (strsV K).length := by omega
      obtain ⟨ad, e, _⟩ := hcells 0 _ (List.getElem?_eq_getElem h00)
      subst e
      have hrun := run_copy_row (P := Tryz.prog) w2 34 34 3 9 w.heap.size 0 K.length K.length ad K.length cap cur.toArray 9 (strsV K) Tryz.underlying34 (by kernel_rfl) hcur (by rw [hsl]; exact (Nat.min_self _).symm) (fun j u hj => by
        obtain ⟨ad2, e2, hc⟩ := hcells j u hj
        cases e2
        exact hc) (by simp; omega) hone
      refine ⟨_, _, hrun, ?_, below_setRow hB2 (Nat.le_refl _) _⟩
      rw [setRow_heap w2 _ _ _ _ _ hcur]
      simp [splice]
  have HCUR := Lib.hid hcur
  have HCELLS := Lib.hid hcells
  have HONE := Lib.hid hone
  have HSPL := Lib.hid hspl
  have HB2 := Lib.hid hB2
  have HSL := Lib.hid hsl
  have HCL := Lib.hid hcl
  have hmk2 : (Instr.makeSlice 34 (.int .i64 K.length) (.int .i64 K.length)).run Tryz.prog w = .ok (.slice (some ⟨w.heap.size, 0, none⟩) K.length K.length) w2 := hmk
  clear hmk hown hown0 hgr hB2 hown2 hcur hcells hone hspl hsl hcl ho HCUR HCELLS HONE HSL HCL HB2
  go_enter Tryz.func32, Tryz.ntmps32
  rw [HSPL.out] at hnew
  have HN := Lib.hid hnew
  have HB3 := Lib.hid hb3
  clear hnew hb3
  go_wp2
  go_ret
  exact ⟨_, rfl, HN.out, Nat.le_refl _, HB3.out⟩
/-- A slice of texts in a block of its own kind. -/
def Ts (W : World) (v : Value) (l : List (List UInt8)) : Prop := (l = [] ∧ ∃ a c, v = .slice a 0 c) ∨ ∃ (g o cap : Nat) (cur : Array Value) (fz : Nat × Nat), v = .slice (some ⟨g, o, none⟩) l.length cap ∧ l.length ≤ cap ∧ W.heap[g]? = some (.cells cur 9 fz) ∧ ∀ j x, l[j]? = some x → cur[o + j]? = some (.string (txt x))
theorem Ts.keep {W W' : World} {v : Value} {l : List (List UInt8)} (h : Ts W v l) (hk : ∀ (g : Nat) (x : Array Value) (fz : Nat × Nat), W.heap[g]? = some (.cells x 9 fz) → W'.heap[g]? = W.heap[g]?) : Ts W' v l := by
  rcases h with h | ⟨g, o, cap, cur, fz, e, hc, hg, hx⟩
  · exact .inl h
  · exact .inr ⟨g, o, cap, cur, fz, e, hc, (hk _ _ _ hg).trans hg, hx⟩
/-- GetComments. -/
theorem getc_any (B b m cb : Nat) (d : Bool) (kv : KV2) (cs : CS2) (k : List UInt8) (w : World) (h : Po B b m cb d kv cs w) :
    Calls Tryz.prog 33 #[.pointer (some ⟨b, 0, none⟩), .string (txt k)] w fun e w' => (∃ v, e = .returned v ∧ (v = .slice none 0 0 ∨ ∃ a c, v = .slice (some a) (cmOf cs k).length c) ∧ Ts w v (cmOf cs k)) ∧ w' = w := by
  obtain ⟨CM, hCM⟩ : ∃ c, cmOf cs k = c := ⟨_, rfl⟩
  rw [hCM]
  obtain ⟨_, _, _, _, vk, vc, ho, _, _, hc, hcn, _⟩ := h
  obtain ⟨cw, rfl, hm, hcw⟩ := hc
  have hfst : ((cw.map fun q => (q.1, q.2.2)) : KW).map Prod.fst = (cw.map fun q => (q.1, q.2.1)).map Prod.fst := by rw [List.map_map, List.map_map]; rfl
  have d4 : w.cell? ⟨b, 4, none⟩ = some (.map (some cb)) := by simp [World.cell?, ho]
  by_cases hk : k ∈ (cw.map fun q => (q.1, q.2.2) : KW).map Prod.fst
  · rw [List.map_map] at hk
    obtain ⟨q, hq, rfl⟩ := List.mem_map.1 hk
    have hlk := (lookw_hit (P := Tryz.prog) 61 9 34 cb (cw.map fun q => (q.1, q.2.2)) q.1 q.2.2 Tryz.underlying61 Tryz.underlying9 hm (by rw [hfst]; exact hcn) (List.mem_map.2 ⟨q, hq, rfl⟩)).1
    have hcm : cmOf (cw.map fun q => (q.1, q.2.1)) q.1 = q.2.1 := cmOf_hit hcn (List.mem_map.2 ⟨q, hq, rfl⟩)
    have hcm : CM = q.2.1 := hCM.symm.trans hcm
    clear hCM
    have hz := hcw q hq
    obtain ⟨g, o, cap, cur, fz, e, hcp, hg, _, _, hx⟩ := hz
    have HT : Hid (Ts w q.2.2 q.2.1) := .inr ⟨g, o, cap, cur, fz, e, hcp, hg, hx⟩
    have HC := Lib.hid hcm
    have HE := Lib.hid e
    obtain ⟨qk, qc, qv⟩ := q
    simp only at *
    subst e
    clear hm hcw hcn hfst ho hx hg hcp hk hq hcm HE
    show Calls _ _ #[_, .string (txt qk)] _ _
    go_enter Tryz.func33, Tryz.ntmps33
    go_wp2
    go_ret
    exact ⟨⟨_, rfl, .inr ⟨⟨g, o, none⟩, cap, by rw [HC.out]; rfl⟩, by rw [HC.out]; exact HT.out⟩, rfl⟩
  · have hlk := (lookw_miss (P := Tryz.prog) 61 9 34 cb (cw.map fun q => (q.1, q.2.2)) k (.slice none 0 0) Tryz.underlying61 Tryz.underlying9 (by kernel_rfl) hm (fun p hp e => hk (List.mem_map.2 ⟨p, hp, e⟩))).1
    have hcm : cmOf (cw.map fun q => (q.1, q.2.1)) k = [] := cmOf_miss (fun p hp e => hk (by
      obtain ⟨q, hq, rfl⟩ := List.mem_map.1 hp
      rw [List.map_map]
      exact List.mem_map.2 ⟨q, hq, e⟩))
    have hcm : CM = [] := hCM.symm.trans hcm
    clear hCM
    have HC := Lib.hid hcm
    clear hm hcw hcn hfst ho hk hcm
    go_enter Tryz.func33, Tryz.ntmps33
    go_wp2
    go_ret
    exact ⟨⟨_, rfl, .inl rfl, .inl ⟨HC.out, _, _, rfl⟩⟩, rfl⟩
/-- Get, without expansion. -/
theorem get_plain (B b m cb : Nat) (kv : KV2) (cs : CS2) (k v : List UInt8) (w : World) (h : Po B b m cb true kv cs w) (hk : (k, v) ∈ kv) :
    Calls Tryz.prog 43 #[.pointer (some ⟨b, 0, none⟩), .string (txt k)] w fun e w' => e = .returned (.tuple #[.string (txt v), .bool true]) ∧ w' = w := by
  obtain ⟨_, _, _, _, vk, vc, ho, hm, hn, _⟩ := h
  have c2 : w.cell? ⟨b, 2, none⟩ = some (.bool true) := by simp [World.cell?, ho]
  have c3 : w.cell? ⟨b, 3, none⟩ = some (.map (some m)) := by simp [World.cell?, ho]
  have hlk := (lookw_hit (P := Tryz.prog) 60 9 9 m (sV kv) k (.string (txt v)) Tryz.underlying60 Tryz.underlying9 hm (by rw [sV_fst]; exact hn) (List.mem_map.2 ⟨(k, v), hk, rfl⟩)).1
  clear hm hn ho hk
  go_enter Tryz.func43, Tryz.ntmps43
  go_wp2
  go_ret2
  exact ⟨rfl, rfl⟩
end Go.Proofs.YtdfhidnhkeapbaaGreatDoor
