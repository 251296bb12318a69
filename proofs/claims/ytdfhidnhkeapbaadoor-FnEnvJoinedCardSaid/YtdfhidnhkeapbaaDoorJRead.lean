/- impl.sortedMap and impl.ReadEnv at texts without dollar signs, quotes and returns. Conditions: such texts; their length; the table unicode.properties. -/
import Derived.Test.YtdfhidnhkeapbaaDoorJParse
import Derived.Test.YtdfhidnhkeapbaaDoorEMap
import Derived.BigQuiet
namespace Go.Proofs.YtdfhidnhkeapbaaDoor
open Go.RowKit U8
open Go.Lib hiding intOf

theorem Tryd.infoPairJ : (Tryd.prog.info? 36).map (fun i => (i.zero, i.size, i.bytes)) = some (some (.agg #[.string ⟨#[]⟩, .string ⟨#[]⟩]), 2, 32) := by kernel_rfl
theorem own_ne_type {B b n k : Nat} {e : TypeId} {v : Value} {xs : List Value} {w : World} {x : Array Value} {T : TypeId} {fz : Nat × Nat} (h : w.ownsRow B e k v n xs) (hb : w.heap[b]? = some (.cells x T fz)) (hT : T ≠ e) : v.ownBlock ≠ some b := by
  intro e0
  rcases h.2 with ⟨rfl, _⟩ | ⟨g, cap, cur, rfl, _, hg, _⟩
  · cases e0
  · have : g = b := by simpa [Value.ownBlock] using e0
    subst this
    rw [hg] at hb
    cases hb
    exact hT rfl
theorem own_apart {B B2 n n2 k k2 : Nat} {e e2 : TypeId} {v v2 : Value} {xs xs2 : List Value} {w : World} (h : w.ownsRow B e k v n xs) (h2 : w.ownsRow B2 e2 k2 v2 n2 xs2) (hT : e ≠ e2) (g : Nat) (hg : v2.ownBlock = some g) : v.ownBlock ≠ some g := by
  rcases h2.2 with ⟨rfl, _⟩ | ⟨g2, cap, cur, rfl, _, hh, _⟩
  · cases hg
  · have : g2 = g := by simpa [Value.ownBlock] using hg
    subst this
    exact own_ne_type h hh (fun e => hT e.symm)
theorem owns_keep {B n k : Nat} {e : TypeId} {v : Value} {xs : List Value} {w w' : World} (h : w.ownsRow B e k v n xs) (hb : ∀ g, v.ownBlock = some g → w'.heap[g]? = w.heap[g]?) : w'.ownsRow B e k v n xs := by
  refine ⟨h.1, ?_⟩
  rcases h.2 with h2 | ⟨g, cap, cur, rfl, hg, hh, r⟩
  · exact .inl h2
  · exact .inr ⟨g, cap, cur, rfl, hg, (hb g rfl).trans hh, r⟩
theorem addr_addJ (g n : Nat) : (⟨g, 0, none⟩ : Addr).add n = ⟨g, n, none⟩ := by unfold Addr.add; split <;> simp_all
theorem own_ne_mapJ {B b n k : Nat} {e : TypeId} {v : Value} {xs : List Value} {w : World} {es : Array MapEntry} {cl : Nat} (h : w.ownsRow B e k v n xs) (hb : w.heap[b]? = some (.map es cl)) : v.ownBlock ≠ some b := by
  intro hv
  rcases h.2 with ⟨rfl, _⟩ | ⟨g, cap, cur, rfl, _, hg, _⟩
  · cases hv
  · have : g = b := by simpa [Value.ownBlock] using hv
    subst this
    rw [hg] at hb
    cases hb
theorem lookup_hitJ (m : Nat) (kv : KVs) (s v : List UInt8) (w : World) (h : MB m (kvV kv) w) (hn : (kv.map Prod.fst).Nodup) (hs : (s, v) ∈ kv) :
    (Instr.lookup 38 (.map (some m)) (.string (txt s)) false).run Tryd.prog w = .ok (.string (txt v)) w := by
  obtain ⟨arr, cl, h1, h2, _⟩ := h
  exact look_plain 38 9 9 m kv s v Tryd.underlying38 Tryd.underlying9 ⟨hn, arr, cl, h1, h2⟩ hs
/-- Pairs of a map by ascending names. -/
def SortP (kv X : KVs) : Prop := X.map Prod.fst = (kv.map Prod.fst).mergeSort (fun x y => decide (x ≤ y)) ∧ ∀ p ∈ X, p ∈ kv
theorem kvV_memJ {kv : KVs} {p : List UInt8 × List UInt8} (h : (Value.string (txt p.1), Value.string (txt p.2)) ∈ kvV kv) : p ∈ kv := by
  unfold kvV at h
  obtain ⟨q, hq, e⟩ := List.mem_map.1 h
  simp only [Prod.mk.injEq, Value.string.injEq] at e
  have h1 : q.1 = p.1 := by have := congrArg ByteArray.toList e.1; rwa [txt_toList, txt_toList] at this
  have h2 : q.2 = p.2 := by have := congrArg ByteArray.toList e.2; rwa [txt_toList, txt_toList] at this
  obtain ⟨a, b⟩ := q
  obtain ⟨c, d⟩ := p
  simp only at h1 h2
  subst h1; subst h2
  exact hq
set_option maxHeartbeats 6400000 in
set_option maxRecDepth 100000 in
theorem sorted_any (m : Nat) (kv : KVs) (w : World) (h : MB m (kvV kv) w) (hn : (kv.map Prod.fst).Nodup) (hl : kv.length ≤ 100000) :
    Calls Tryd.prog 18 #[.map (some m)] w fun e w' => (∃ (X : KVs) (xo : Option Addr) (xc : Nat), e = .returned (.slice xo X.length xc) ∧ w'.ownsRow w.heap.size 36 2 (.slice xo X.length xc) X.length (X.flatMap pcells) ∧ SortP kv X) ∧ Below w.heap.size w w' := by
  obtain ⟨i0, hi, hz0, hz1, hz2⟩ := info_parts Tryd.infoStr
  obtain ⟨ip, hpi, hp0, hp1, hp2⟩ := info_parts Tryd.infoPairJ
  have HM := Lib.hid h
  have HN := Lib.hid hn
  have hml := h.lt
  clear h hn
  go_enter Tryd.func18, Tryd.ntmps18
  go_wp2_with (at_range; refine wpList_range_mb rfl _ _ rfl 9 9 Tryd.underlying38 m (kvV kv) rfl HM.out ?_)
  intro w3 hrg hb3 hs3
  have HRG := Lib.hid hrg
  have HB30 := Lib.hid hb3
  have HW3 : Hid (w3.ownsRow w.heap.size 9 1 (.slice none 0 0) 0 (strsV [])) := ⟨rfl, .inl ⟨rfl, rfl⟩⟩
  clear hrg hb3
  obtain ⟨G, hG⟩ : ∃ G, w.heap.size = G := ⟨_, rfl⟩
  have hGB : w.heap.size ≤ G := by omega
  rw [show (Value.pointer (some ⟨w.heap.size, 0, none⟩)) = Value.pointer (some ⟨G, 0, none⟩) by rw [hG]]
  have HRG2 : Hid (RG G m (kvV kv) (kvV kv) w3) := hG ▸ HRG.out
  clear HRG
  have HGE := Lib.hid hG
  clear hG
  go_wp2
  go_loopg [3, 4, 10, 11, 12, 13] (kv.length + 1) (fun gk v3 v4 v10 v11 v12 v13 wr => ∃ (rem : KVs) (L : List (List UInt8)) (ao : Option Addr) (cap : Nat), v3 = .slice ao L.length cap ∧ rem.length < gk ∧ L.length + rem.length ≤ 100000 ∧ Hid (RG G m (kvV kv) (kvV rem) wr) ∧ Hid ((L ++ rem.map Prod.fst).Perm (kv.map Prod.fst)) ∧ Hid (wr.ownsRow w.heap.size 9 1 (.slice ao L.length cap) L.length (strsV L)) ∧ Hid (Below w.heap.size w wr))
  case atStart => exact ⟨kv, [], _, _, rfl, by omega, by simp; omega, HRG2.out, List.Perm.refl _, HW3.out, HB30.out⟩
  case round =>
    clear HRG2 HW3 HB30
    obtain ⟨rem, L, ao, cap, rfl, hg, hlr, HR, HP, HW, HB⟩ := hrel
    have hbs := HB.out.size
    go_wp2_with (at_next; refine wpList_next_mb rfl _ rfl G m (kvV kv) (kvV rem) rfl HR.out w.heap.size hGB ?_ ?_)
    · intro hrem
      have hr0 : rem = [] := by simpa [kvV] using hrem
      subst hr0
      have hperm : L.Perm (kv.map Prod.fst) := by have := HP.out; simpa using this
      have HS : Hid (L.mergeSort (fun x y => decide (x ≤ y)) = (kv.map Prod.fst).mergeSort (fun x y => decide (x ≤ y))) := mergeSort_of_perm hperm
      have HPM := Lib.hid hperm
      have hmr := HR.out.lt.1
      have CS := Lib.hid (sort_own w.heap.size ao cap L wr HW.out (by omega))
      have HMR : Hid (MB m (kvV kv) wr) := HR.out.map
      obtain ⟨hm1, hm2⟩ := row_apart HW.out HR.out
      have HM1 := Lib.hid hm1
      clear hrem hperm HP hm1 hm2
      go_wp2_with fail
      refine CS.out.mono ?_
      rintro e w4 ⟨rfl, hown4, hb4, hk4⟩
      obtain ⟨T, hT⟩ : ∃ T, L.mergeSort (fun x y => decide (x ≤ y)) = T := ⟨_, rfl⟩
      have hTl : T.length = L.length := by rw [← hT, List.length_mergeSort]
      rw [hT] at hown4 HS
      have HB4 := Lib.hid (HB.out.trans hb4)
      have HM4 := Lib.hid (HMR.out.of (hk4 m hmr HM1.out))
      have HW4 := Lib.hid hown4
      have HTP : Hid (T.Perm (kv.map Prod.fst)) := by
        show List.Perm _ _
        rw [← hT]
        exact (List.mergeSort_perm _ _).trans HPM.out
      have HTL := Lib.hid hTl
      obtain ⟨n, hn⟩ : ∃ n, L.length = n := ⟨_, rfl⟩
      rw [hn] at HW4 HTL hlr ⊢
      clear hown4 hb4 hk4 hT hTl CS HR HW HB HMR HPM hn
      go_wp2
      go_loopg [5, 7, 22] (n + 1) (fun gk v5 v7 v22 wq => ∃ (j : Nat) (X : KVs) (xo : Option Addr) (xc : Nat), v22 = .int .i64 j ∧ v5 = .slice xo X.length xc ∧ j ≤ n ∧ n - j < gk ∧ X.length = j ∧ Hid (X.map Prod.fst = T.take j) ∧ Hid (∀ p ∈ X, p ∈ kv) ∧ Hid (wq.ownsRow w.heap.size 36 2 (.slice xo X.length xc) X.length (X.flatMap pcells)) ∧ Hid (wq.ownsRow w.heap.size 9 1 (.slice ao n cap) n (strsV T)) ∧ Hid (MB m (kvV kv) wq) ∧ Hid (Below w.heap.size w wq))
      case atStart => exact ⟨0, [], none, 0, rfl, rfl, by omega, by omega, rfl, rfl, (fun p hp => absurd hp (by simp)), ⟨rfl, .inl ⟨rfl, rfl⟩⟩, HW4.out, HM4.out, HB4.out⟩
      case round =>
        clear HW4 HM4 HB4
        obtain ⟨j, X, xo, xc, rfl, rfl, hj, hgj, hXj, HX, HXM, HWX, HWT, HMJ, HBJ⟩ := hrel
        have hbj := HBJ.out.size
        by_cases hlt : j < n
        · obtain ⟨g2, rfl⟩ : ∃ x, gk = x + 1 := ⟨gk - 1, by omega⟩
          have hjT : j < T.length := by have := HTL.out; omega
          have hgt := List.getElem?_eq_getElem hjT
          have htk := List.take_succ_eq_append_getElem hjT
          have hmT := HTP.out.mem_iff.1 (List.getElem_mem hjT)
          generalize T[j] = s at hgt htk hmT
          obtain ⟨q, hq, hqs⟩ := List.mem_map.1 hmT
          obtain ⟨g', _, hg'⟩ := owns_some HWT.out (by omega)
          subst hg'
          have z0 : wr.cell? ⟨g', j, none⟩ = some (.string (txt s)) := by
            have hz := World.ownsRow.cells HWT.out rfl j (.string (txt s)) (by unfold strsV; rw [List.getElem?_map, hgt]; rfl)
            rw [addr_addJ] at hz
            exact hz
          have hlk := (lookup_hitJ m kv s q.2 wr HMJ.out HN.out (by rw [← hqs]; exact hq))
          have HQ2 : Hid ((s, q.2) ∈ kv) := by
            show _ ∈ _
            rw [← hqs]; exact hq
          obtain ⟨v, hv⟩ : ∃ v, q.2 = v := ⟨_, rfl⟩
          rw [hv] at hlk HQ2
          have HXT : Hid ((X ++ [(s, v)]).map Prod.fst = T.take (j + 1)) := by
            show _ = _
            rw [List.map_append, HX.out, htk]; rfl
          have HWJ := Lib.hid HWX.out
          have hap := fun g hg => own_apart HWJ.out HWT.out (by decide) g hg
          have hmx : (Value.slice xo X.length xc).ownBlock ≠ some m := by
            obtain ⟨_, _, hmc, _⟩ := HMJ.out
            exact own_ne_mapJ HWJ.out hmc
          have HAP := Lib.hid hap
          have HMX := Lib.hid hmx
          clear hgt htk hmT hq hqs hv hap hmx
          go_wp2_with (at_builtin; refine wpList_appk rfl _ _ 24 36 rfl 2 ip _ 32 Tryd.underlying24 hpi hp0 hp1 hp2 rfl (by decide) w.heap.size _ X.length _ rfl HWJ.out #[.string (txt s), .string (txt v)] rfl (by intro u hu; simp at hu; rcases hu with rfl | rfl <;> rfl) _ rfl rfl (by omega) (by omega) hbj ?_)
          intro xo2 xc2 w5 hown5 hb5 hk5
          have HB5 := Lib.hid (HBJ.out.trans hb5)
          have HM5 := Lib.hid (HMJ.out.of (hk5 m HMJ.out.lt (by rw [← hXj]; exact HMX.out)))
          have HT5 : Hid (w5.ownsRow w.heap.size 9 1 (.slice (some ⟨g', 0, none⟩) n cap) n (strsV T)) := owns_keep HWT.out fun g hg => hk5 g (HWT.out.lt g hg).2 (by rw [← hXj]; exact HAP.out g hg)
          have HX5 : Hid (w5.ownsRow w.heap.size 36 2 (.slice xo2 (X ++ [(s, v)]).length xc2) (X ++ [(s, v)]).length ((X ++ [(s, v)]).flatMap pcells)) := by
            have e1 : (X ++ [(s, v)]).length = X.length + 1 := by simp
            have e2 : (X ++ [(s, v)]).flatMap pcells = X.flatMap pcells ++ [.string (txt s), .string (txt v)] := by simp [pcells]
            show World.ownsRow _ _ _ _ _ _ _
            rw [e1, e2]
            have h := hown5
            rw [← hXj] at h
            exact h
          have HXM2 : Hid (∀ p ∈ X ++ [(s, v)], p ∈ kv) := fun p hp => by
            rcases List.mem_append.1 hp with hp | hp
            · exact HXM.out p hp
            · rw [List.mem_singleton.1 hp]; exact HQ2.out
          clear hown5 hb5 hk5 hlk
          go_wp2
          go_roundg g2
          case rel => exact ⟨j + 1, X ++ [(s, v)], xo2, xc2, by go_num, by rw [List.length_append, hXj]; rfl, by omega, by omega, by simp [hXj], HXT.out, HXM2.out, HX5.out, HT5.out, HM5.out, HB5.out⟩
          case measure => omega
        · obtain rfl : j = n := by omega
          have HF : Hid (SortP kv X) := by
            refine ⟨?_, HXM.out⟩
            rw [HX.out, ← HS.out, List.take_of_length_le (by have := HTL.out; omega)]
          go_wp2
          go_ret
          exact ⟨⟨X, xo, xc, rfl, HWX.out, HF.out⟩, HBJ.out⟩
    · intro l1 l2 key v w4 hrem hmem hrg4 hb4 hk4 hs4 hen
      obtain ⟨r1, p, r2, rfl, rfl, rfl, rfl, rfl⟩ := kvV_split hrem
      obtain ⟨hm1, hm2⟩ := row_apart HW.out HR.out
      have HR4 : Hid (RG G m (kvV kv) (kvV (r1 ++ r2)) w4) := by show RG _ _ _ _ _; rw [kvV_app]; exact hrg4
      have HW4 : Hid (w4.ownsRow w.heap.size 9 1 (.slice ao L.length cap) L.length (strsV L)) := owns_of (w := wr) HW.out fun g hg => hk4 g (fun e => hm2 (by rw [hg, e]))
      have HB4 := Lib.hid (HB.out.trans hb4)
      have hbs4 := HB4.out.size
      have HP4 : Hid (((L ++ [p.1]) ++ (r1 ++ r2).map Prod.fst).Perm (kv.map Prod.fst)) := by
        show List.Perm _ _
        have := HP.out
        rw [List.map_append, List.map_cons] at this
        refine List.Perm.trans ?_ this
        rw [List.append_assoc, List.map_append]
        refine List.Perm.append_left _ ?_
        show List.Perm (p.1 :: (r1.map Prod.fst ++ r2.map Prod.fst)) _
        exact List.perm_middle.symm
      obtain ⟨gk, rfl⟩ : ∃ x, gk = x + 1 := ⟨gk - 1, by rw [List.length_append, List.length_cons] at hg; omega⟩
      rw [List.length_append, List.length_cons] at hg hlr
      clear hrem hmem hrg4 hb4 hk4 hs4 hm1 hm2 HR HP HW HB
      go_wp2_with (at_builtin; refine wpList_app1 rfl _ _ 44 9 rfl i0 (.string ⟨#[]⟩) 16 Tryd.underlying44 hi hz0 hz1 hz2 rfl w.heap.size _ L.length _ rfl HW4.out (.string (txt p.1)) rfl rfl (by omega) (by omega) hbs4 ?_)
      intro ao2 cap2 w7 hown7 hb7 hkeep7
      obtain ⟨hm1, hm2⟩ := row_apart HW4.out HR4.out
      have HR7 := Lib.hid (HR4.out.of (hkeep7 m HR4.out.lt.1 hm1) (hkeep7 G HR4.out.lt.2 hm2))
      have HW7 : Hid (w7.ownsRow w.heap.size 9 1 (.slice ao2 (L ++ [p.1]).length cap2) (L ++ [p.1]).length (strsV (L ++ [p.1]))) := by
        show World.ownsRow _ _ _ _ _ _ _
        rw [List.length_append, show strsV (L ++ [p.1]) = strsV L ++ [.string (txt p.1)] by simp [strsV]]
        exact hown7
      have HB7 := Lib.hid (HB4.out.trans hb7)
      clear hown7 hb7 hkeep7 hm1 hm2
      go_wp2
      go_roundg gk
      case rel => exact ⟨r1 ++ r2, L ++ [p.1], ao2, cap2, by rw [List.length_append]; rfl, by rw [List.length_append]; omega, by rw [List.length_append, List.length_append, List.length_singleton]; omega, HR7.out, HP4.out, HW7.out, HB7.out⟩
      case measure => omega
end Go.Proofs.YtdfhidnhkeapbaaDoor
