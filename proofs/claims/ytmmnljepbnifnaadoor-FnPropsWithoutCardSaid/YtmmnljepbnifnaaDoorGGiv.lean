/- impl.given, with comments. -/
import Derived.Test.YtmmnljepbnifnaaDoorGText
import Derived.Test.YtmmnljepbnifnaaDoorGSetC
import Derived.Deep.AppendLies
namespace Go.Proofs.YtmmnljepbnifnaaDoor
open Go.RowKit U8
open Go.Lib hiding intOf

/-- The keys that have comments. -/
def cK (ps : List PropA) : List (List UInt8) := (ps.filter fun p => decide (p.c ≠ [])).map PropA.k
theorem newProps2 (w : World) :
    Calls Tryd.prog 24 #[] w fun e w' => e = .returned (.pointer (some ⟨w.heap.size + 3, 0, none⟩)) ∧
      w'.heap[w.heap.size]? = some (.map #[] 0) ∧
      w'.heap[w.heap.size + 1]? = some (.map #[] 0) ∧
      w'.heap[w.heap.size + 2]? = some (.cells #[] 9 (0, 0)) ∧
      w'.heap[w.heap.size + 3]? = some (.cells #[.string ⟨#[36, 123]⟩, .string ⟨#[125]⟩, .bool false, .map (some w.heap.size), .map (some (w.heap.size + 1)), .slice (some ⟨w.heap.size + 2, 0, none⟩) 0 0, .string ⟨#[]⟩] 48 (0, 0)) ∧
      Below w.heap.size w w' ∧ w'.heap.size = w.heap.size + 4 := by
  have hmm := @run_makeMap Tryd.prog
  go_enter Tryd.func24, Tryd.ntmps24
  go_wp2
  go_ret
  refine ⟨rfl, ?_, ?_, ?_, ?_, ?_, by simp⟩
  · rw [al_old _ _ _ (by simp; omega), al_old _ _ _ (by simp; omega), al_old _ _ _ (by simp), al_new w _ _ rfl]
  · rw [al_old _ _ _ (by simp), al_old _ _ _ (by simp), al_new _ _ _ (by simp)]
  · rw [al_old _ _ _ (by simp), al_new _ _ _ (by simp)]
  · rw [al_new _ _ _ (by simp)]
  · have b1 := (Below.refl w.heap.size w).alloc (Nat.le_refl _) (.map #[] 0)
    have b2 := b1.alloc b1.size (.map #[] 0)
    have b3 := b2.alloc b2.size (.cells #[] 9)
    exact b3.alloc b3.size _


theorem pr_keep {B b m cb : Nat} {s1 s2 c s3 : Value} {kv : KV} {w w' : World} (h : Pr B b m s1 s2 c s3 kv w) (hk : ∀ r, r < w.heap.size → r ≠ cb → w'.heap[r]? = w.heap[r]?) (hc : ∃ es cl, w.heap[cb]? = some (.map es cl)) (hm : m ≠ cb) : Pr B b m s1 s2 c s3 kv w' := by
  obtain ⟨h1, h2, h3, vk, h4, h5⟩ := h
  obtain ⟨es, cl, hcb⟩ := hc
  refine ⟨h1, h2, h3.of (hk m h3.lt hm), vk, (hk b (Array.getElem?_eq_some_iff.1 h4).1 (fun e => ?_)).trans h4, owns_of h5 fun g hg => ?_⟩
  · rw [e, hcb] at h4; cases h4
  · refine hk g (h5.lt g hg).2 (fun e => ?_)
    rw [e] at hg
    exact own_ne_map h5 hcb hg
set_option linter.unusedVariables false
theorem cK_snoc (ps : List PropA) (p : PropA) : cK (ps ++ [p]) = if p.c = [] then cK ps else cK ps ++ [p.k] := by
  unfold cK
  rw [List.filter_append, List.map_append]
  by_cases h : p.c = []
  · rw [if_pos h]; simp [h]
  · rw [if_neg h]; simp [h]
theorem cK_mem {ps : List PropA} {k : List UInt8} (h : k ∈ cK ps) : ∃ p ∈ ps, p.k = k := by
  unfold cK at h
  obtain ⟨p, hp, rfl⟩ := List.mem_map.1 h
  exact ⟨p, (List.mem_filter.1 hp).1, rfl⟩
set_option maxHeartbeats 3200000 in
set_option maxRecDepth 100000 in
theorem given_any (ps : List PropA) (v : Value) (w : World) (hP : Px w v ps) (hc : ∀ p ∈ ps, p.c.length ≤ 2147483647 ∧ p.k ≠ []) (hn : (ps.map PropA.k).Nodup) (hl : ps.length ≤ 2147483647) :
    Calls Tryd.prog 14 #[v] w fun e w' => ∃ b m cb, e = .returned (.pointer (some ⟨b, 0, none⟩)) ∧ Pr w.heap.size b m (.string ⟨#[36, 123]⟩) (.string ⟨#[125]⟩) (.map (some cb)) (.string ⟨#[]⟩) (ps.map fun p => (p.k, p.r)) w' ∧ IsC cb (cK ps) w' ∧ Below w.heap.size w w' := by
  obtain ⟨ao, cap, rfl, hcp, hx⟩ := hP
  obtain ⟨i0, hi, hz0, hz1, hz2⟩ := info_parts Tryd.infoStr
  have HX := Lib.hid hx
  have HC := Lib.hid hc
  have HN := Lib.hid hn
  clear hx hc hn
  go_enter Tryd.func14, Tryd.ntmps14
  go_wp2_with fail
  refine (newProps2 w).mono ?_
  rintro e w1 ⟨rfl, hm, hcm, hk, ho, hb, hsz⟩
  have HC0 : Hid (IsC (w.heap.size + 1) (cK []) (w1.setCell ⟨w.heap.size + 3, 2, none⟩ (.bool true))) := by
    refine ⟨#[], 0, ?_, fun x hx => by simp at hx⟩
    rw [Below.heap_setCell _ _ _ _ (by simp)]
    exact hcm
  have c2 : w1.cell? ⟨w.heap.size + 3, 2, none⟩ = some (.bool false) := by simp [World.cell?, ho]
  have f2 : w1.frozen? ⟨w.heap.size + 3, 2, none⟩ = false := by simp [World.frozen?, ho]
  have HP0 : Hid (Pr w.heap.size (w.heap.size + 3) w.heap.size (.string ⟨#[36, 123]⟩) (.string ⟨#[125]⟩) (.map (some (w.heap.size + 1))) (.string ⟨#[]⟩) [] (w1.setCell ⟨w.heap.size + 3, 2, none⟩ (.bool true))) := by
    refine ⟨by omega, by omega, (ism_new hm).of (Below.heap_setCell _ _ _ _ (by simp)), .slice (some ⟨w.heap.size + 2, 0, none⟩) 0 0, ?_, ?_⟩
    · simp [World.setCell, Array.getElem?_modify, ho]
    · refine ⟨rfl, .inr ⟨w.heap.size + 2, 0, #[], rfl, by omega, ?_, Nat.le_refl _, by unfold maxLen; omega, rfl, rfl⟩⟩
      rw [Below.heap_setCell _ _ _ _ (by simp)]; exact hk
  have HB0 : Hid (Below w.heap.size w (w1.setCell ⟨w.heap.size + 3, 2, none⟩ (.bool true))) := hb.setCell (p := ⟨w.heap.size + 3, 2, none⟩) (by simp) (.bool true)
  clear hm hk ho hb hsz hcm
  obtain ⟨b, hb⟩ : ∃ b, w.heap.size + 3 = b := ⟨_, rfl⟩
  rw [hb] at c2 f2 HP0 HB0 HC0 ⊢
  clear hb
  go_wp2
  generalize w1.setCell ⟨b, 2, none⟩ (.bool true) = w2 at *
  go_loopg [5, 12] (ps.length + 1) (fun gk v5 v12 wr => ∃ k : Nat, v12 = .int .i64 k ∧ k ≤ ps.length ∧ ps.length - k < gk ∧ Hid (Pr w.heap.size b w.heap.size (.string ⟨#[36, 123]⟩) (.string ⟨#[125]⟩) (.map (some (w.heap.size + 1))) (.string ⟨#[]⟩) ((ps.take k).map fun p => (p.k, p.r)) wr) ∧ Hid (IsC (w.heap.size + 1) (cK (ps.take k)) wr) ∧ Hid (Below w.heap.size w wr))
  case atStart => exact ⟨0, rfl, by omega, by omega, HP0.out, HC0.out, HB0.out⟩
  case round =>
    obtain ⟨k, rfl, hk, hg, HP, HIC, HB⟩ := hrel
    have hbs := HB.out.size
    by_cases hlt : k < ps.length
    · obtain ⟨gk, rfl⟩ : ∃ m, gk = m + 1 := ⟨gk - 1, by omega⟩
      have hp := List.getElem?_eq_getElem hlt
      have htk := List.take_succ_eq_append_getElem hlt
      generalize ps[k] = p at hp htk
      obtain ⟨g, o, cv, rfl, h0, h1, h2, h3, h4⟩ := HX.out k p hp
      have c : ∀ {q : Addr} {u : Value}, w.cell? q = some u → wr.cell? q = some u := fun {q u} h => (HB.out.cell (World.block_lt_of_cell? w _ h)).trans h
      have d0 := c h0
      have d1 := c h1
      have d2 := c h2
      have d3 := c h3
      obtain ⟨cao, ccap, rfl, _, hcx⟩ := h4
      obtain ⟨hpc, hpk⟩ := HC.out p (List.mem_of_getElem? hp)
      obtain ⟨pk, pr, px, pc⟩ := p
      simp only at hpc hpk d0 d1 d2
      have HTK : Hid ((ps.take (k + 1)).map (fun p => (p.k, p.r)) = (ps.take k).map (fun p => (p.k, p.r)) ++ [(pk, pr)]) := by show _ = _; rw [htk, List.map_append]; rfl
      have hnew : ∀ q ∈ (ps.take k).map (fun p => (p.k, p.r)), q.1 ≠ pk := by
        intro q hq e
        obtain ⟨y, hy, rfl⟩ := List.mem_map.1 hq
        have hnd := HN.out
        rw [← List.take_append_drop k ps, List.map_append, List.nodup_append] at hnd
        refine hnd.2.2 y.k (List.mem_map.2 ⟨y, hy, rfl⟩) pk (List.mem_map.2 ⟨_, List.mem_of_getElem? (l := ps.drop k) (i := 0) (by rw [List.getElem?_drop]; exact hp), rfl⟩) e
      have hlk : ((ps.take k).map fun p => (p.k, p.r)).length ≤ 2147483647 := by rw [List.length_map, List.length_take]; omega
      have CS := Lib.hid fun W (h : Pr w.heap.size b w.heap.size (.string ⟨#[36, 123]⟩) (.string ⟨#[125]⟩) (.map (some (w.heap.size + 1))) (.string ⟨#[]⟩) ((ps.take k).map fun p => (p.k, p.r)) W) (hB : w.heap.size ≤ W.heap.size) => set_new w.heap.size b w.heap.size _ _ _ _ _ pk pr W h hnew hpk hlk hB
      have HCK : Hid (cK (ps.take (k + 1)) = if pc = [] then cK (ps.take k) else cK (ps.take k) ++ [pk]) := by show _ = _; rw [htk, cK_snoc]
      have HNC : Hid (∀ y ∈ cK (ps.take k), y ≠ pk) := by
        show ∀ _ _, _
        intro y hy
        obtain ⟨q, hq, rfl⟩ := cK_mem hy
        exact hnew (q.k, q.r) (List.mem_map.2 ⟨q, hq, rfl⟩)
      have HCX := Lib.hid hcx
      have HPM := Lib.hid (List.mem_of_getElem? hp)
      clear h0 h1 h2 h3 c hp htk hnew hpk hlk hcx
      have HBA := Lib.hid (HB.out.alloc hbs (.cells #[.string (txt pk), .string (txt pr), .string (txt px), .slice cao pc.length ccap] 27))
      have HPA := Lib.hid (HP.out.below ((Below.refl wr.heap.size wr).alloc (Nat.le_refl _) (.cells #[.string (txt pk), .string (txt pr), .string (txt px), .slice cao pc.length ccap] 27)))
      go_wp2_with fail
      refine (CS.out _ HPA.out (by simp; omega)).mono ?_
      rintro e w3 ⟨rfl, hp3, hb3, hk3⟩
      have h3 : w3.heap[wr.heap.size]? = some (.cells #[.string (txt pk), .string (txt pr), .string (txt px), .slice cao pc.length ccap] 27 (0, 0)) := by
        have hn := heap_alloc_new wr (.cells #[.string (txt pk), .string (txt pr), .string (txt px), .slice cao pc.length ccap] 27)
        have hlb : b < wr.heap.size := by obtain ⟨_, _, _, vk, h4, _⟩ := HP.out; exact (Array.getElem?_eq_some_iff.1 h4).1
        have hlm := HP.out.2.2.1.lt
        rw [← hn]
        refine hk3 wr.heap.size (by simp) (by omega) (by omega) (fun x fz => ?_)
        rw [hn]
        intro e
        cases e
      have hic3 : IsC (w.heap.size + 1) (cK (ps.take k)) w3 := by
        obtain ⟨es, cl, hmc, hx⟩ := HIC.out
        have hlc : w.heap.size + 1 < wr.heap.size := (Array.getElem?_eq_some_iff.1 hmc).1
        refine ⟨es, cl, ?_, hx⟩
        have ha : (wr.alloc (.cells #[.string (txt pk), .string (txt pr), .string (txt px), .slice cao pc.length ccap] 27)).heap[w.heap.size + 1]? = some (.map es cl) := (al_old _ _ _ hlc).trans hmc
        rw [← ha]
        refine hk3 _ (by simp; omega) ?_ (by omega) (fun x fz => by rw [ha]; intro e; cases e)
        intro e
        obtain ⟨_, _, _, vk, h4, _⟩ := HP.out
        rw [e] at hmc
        rw [hmc] at h4
        cases h4
      have d33 : w3.cell? ⟨wr.heap.size, 3, none⟩ = some (.slice cao pc.length ccap) := by simp [World.cell?, h3]
      have d30 : w3.cell? ⟨wr.heap.size, 0, none⟩ = some (.string (txt pk)) := by simp [World.cell?, h3]
      have HP3 := Lib.hid (show Pr w.heap.size b w.heap.size (.string ⟨#[36, 123]⟩) (.string ⟨#[125]⟩) (.map (some (w.heap.size + 1))) (.string ⟨#[]⟩) ((ps.take (k + 1)).map fun p => (p.k, p.r)) w3 by rw [HTK.out]; exact hp3)
      have HB3 := Lib.hid (HBA.out.trans hb3)
      have HI3 := Lib.hid hic3
      clear hp3 hb3 hk3 h3 hic3
      by_cases hpc0 : pc = []
      · subst hpc0
        have HIN : Hid (IsC (w.heap.size + 1) (cK (ps.take (k + 1))) w3) := by rw [show cK (ps.take (k + 1)) = cK (ps.take k) by rw [HCK.out, if_pos rfl]]; exact HI3
        go_wp2
        go_roundg gk
        case rel => exact ⟨k + 1, by go_num, by omega, by omega, HP3.out, HIN.out, HB3.out⟩
        case measure => omega
      · have hpl0 : 0 < pc.length := List.length_pos_iff.2 hpc0
        have hck : cK (ps.take (k + 1)) = cK (ps.take k) ++ [pk] := by rw [HCK.out, if_neg hpc0]
        have HCK2 := Lib.hid hck
        clear hpc0 hck
        obtain ⟨gc, oc, rfl, _⟩ := HCX.out 0 _ (List.getElem?_eq_getElem hpl0)
        have hcells : ∀ W, Below w.heap.size w W → ∀ (j : Nat) u, (strsV pc)[j]? = some u → W.cell? ((⟨gc, oc, none⟩ : Addr).add j) = some u := by
          intro W hW j u hj
          unfold strsV at hj
          rw [List.getElem?_map] at hj
          cases hx : pc[j]? with
          | none => rw [hx] at hj; cases hj
          | some x =>
            rw [hx] at hj
            obtain ⟨g1, o1, e1, c1⟩ := HCX.out j x hx
            cases e1
            have : (⟨gc, oc, none⟩ : Addr).add j = ⟨gc, oc + j, none⟩ := by unfold Addr.add; split <;> simp_all
            rw [this, ← Option.some.inj hj]
            exact (hW.cell (World.block_lt_of_cell? w _ c1)).trans c1
        have HCELLS := Lib.hid hcells
        clear hcells
        have hlc3 := (HI3.out)
        have d34 : w3.cell? ⟨b, 4, none⟩ = some (.map (some (w.heap.size + 1))) := by
          obtain ⟨_, _, _, vk, h4, _⟩ := HP3.out
          simp [World.cell?, h4]
        have HD34 := Lib.hid d34
        have HD30 := Lib.hid d30
        have hs3 := HB3.out.size
        have hla : wr.heap.size < w3.heap.size := World.block_lt_of_cell? w3 _ d30
        have HOE : Hid ((w3.drew.alloc (.cells #[] 9)).ownsRow w.heap.size 9 1 (.slice (some ⟨w3.heap.size, 0, none⟩) 0 0) 0 []) :=
          ⟨rfl, .inr ⟨w3.heap.size, 0, #[], rfl, hs3, heap_alloc_new w3.drew _, Nat.le_refl _, by unfold maxLen; omega, rfl, rfl⟩⟩
        have HA : Hid (Below w.heap.size w (w3.drew.alloc (.cells #[] 9))) := HB3.out.drew.alloc (by simpa using hs3) _
        have hpm := (HC.out _ HPM.out).1
        clear hlc3 d34
        go_upto_region 8 with fail
        go_region_law (first
          | (refine step_append_lies _ rfl (.tmp 29) (.tmp 31) 25 rfl w.heap.size 9 i0 (.string ⟨#[]⟩) 1 16 Tryd.underlying25 hi hz0 hz1 hz2 rfl (by decide) (.slice (some ⟨w3.heap.size, 0, none⟩) 0 0) 0 [] (by simp [Act.eval]) HOE.out ⟨gc, oc, none⟩ pc.length ccap (strsV pc) (by simp [Act.eval]) (by simp [strsV]) (HCELLS.out _ HA.out) (by intro u hu; unfold strsV at hu; obtain ⟨x, _, rfl⟩ := List.mem_map.1 hu; rfl) hpl0 (by unfold maxLen; omega) (by omega) HA.out.size _ rfl ?_; intro ga cp2 w4 hown' hgrow hor hlt2
             have hk4 : ∀ r, r < w3.heap.size → w4.heap[r]? = w3.heap[r]? := fun r hr => by
               rw [hgrow.block r (by simp; omega) (by simp [Value.ownBlock]; omega)]; exact al_old w3.drew _ r hr
             have e30 : w4.cell? ⟨wr.heap.size, 0, none⟩ = some (.string (txt pk)) := by
               have := HD30.out
               unfold World.cell? at this ⊢
               rw [hk4 _ hla]; exact this
             have e44 : w4.cell? ⟨b, 4, none⟩ = some (.map (some (w.heap.size + 1))) := by
               have h := HD34.out
               have hl := World.block_lt_of_cell? w3 _ h
               unfold World.cell? at h ⊢
               rw [hk4 _ hl]; exact h
             have ic4 : IsC (w.heap.size + 1) (cK (ps.take k)) w4 := HI3.out.of (hk4 _ (by obtain ⟨_, _, hmc, _⟩ := HI3.out; exact (Array.getElem?_eq_some_iff.1 hmc).1)))
          | (go_simp; go_at_call 26; refine (setc_any w.heap.size b (w.heap.size + 1) (cK (ps.take k)) pk ga _ cp2 w4 e44 (by omega) ic4 HNC.out).mono ?_; rintro e w5 ⟨rfl, hi5, ho5, hs5, hb5⟩))
        all_goals
          have hk5 : ∀ r, r < w3.heap.size → r ≠ w.heap.size + 1 → w5.heap[r]? = w3.heap[r]? := fun r hr hne => (ho5 r hne).trans (hk4 r hr)
          have HP5 := Lib.hid (pr_keep HP3.out hk5 (by obtain ⟨es, cl, hmc, _⟩ := HI3.out; exact ⟨es, cl, hmc⟩) (by omega))
          have HI5 := Lib.hid (show IsC (w.heap.size + 1) (cK (ps.take (k + 1))) w5 by rw [HCK2.out]; exact hi5)
          have HB5 := Lib.hid ((HA.out.grown hgrow (by have := HA.out.size; exact this) (fun j hj => (HOE.out.lt j hj).1)).trans hb5)
          clear hk5 hk4 ho5 hi5 hb5 hgrow hown' hor e30 e44 ic4 hs5
          go_wp2
          go_roundg gk
          case rel => exact ⟨k + 1, by go_num, by omega, by omega, HP5.out, HI5.out, HB5.out⟩
          case measure => omega
    · have HF := HP.out
      rw [List.take_of_length_le (by omega)] at HF
      have HF2 := Lib.hid HF
      have HIF : Hid (IsC (w.heap.size + 1) (cK ps) wr) := by
        have := HIC.out
        rw [List.take_of_length_le (by omega)] at this
        exact this
      clear HF HP
      go_wp2
      go_ret
      exact ⟨b, w.heap.size, w.heap.size + 1, rfl, HF2.out, HIF.out, HB.out⟩

end Go.Proofs.YtmmnljepbnifnaaDoor
