/- laws.mapped: its walk, and that its answer ascends. Condition: the number of pairs. -/
import Derived.Test.YtdfhidnhkeapbaaDoorEMap
import Derived.Deep.RegionWith
import Derived.BigQuiet
import Derived.StillTailTactics
import Derived.Deep.Cut
import Derived.Deep.CutRange
import Derived.Deep.DeepCutAuto
import Derived.Deep.QuietTactic
namespace Go.Proofs.YtdfhidnhkeapbaaDoor
open Go.RowKit U8
open Go.Lib hiding intOf

theorem Tryd.infoPair : (Tryd.prog.info? 36).map (fun i => (i.zero, i.size, i.bytes)) = some (some (.agg #[.string ⟨#[]⟩, .string ⟨#[]⟩]), 2, 32) := by kernel_rfl
theorem addr_add (g n : Nat) : (⟨g, 0, none⟩ : Addr).add n = ⟨g, n, none⟩ := by unfold Addr.add; split <;> simp_all
theorem drewN_below (w : World) (n : Nat) : Below w.heap.size w (w.drewN n) := by
  have hb := Below.refl w.heap.size w
  exact ⟨hb.os, hb.tape, hb.output, hb.size, hb.block⟩
theorem row_empty (W : World) (X B : Nat) (h : W.heap[X]? = some (.cells #[] 36 (0, 0))) (hB : B ≤ X) : W.ownsRow B 36 2 (.slice (some ⟨X, 0, none⟩) 0 0) 0 [] :=
  ⟨rfl, .inr ⟨X, 0, #[], rfl, hB, h, Nat.le_refl _, by unfold maxLen; omega, rfl, rfl⟩⟩
theorem rowAt_block (W : World) (X : Nat) (p : List UInt8 × List UInt8) (h : W.heap[X]? = some (.cells #[.string (txt p.1), .string (txt p.2)] 36 (0, 0))) : RowAt W (.slice (some ⟨X, 0, none⟩) 1 1) 1 2 (pcells p) :=
  ⟨rfl, by intro u hu; simp [pcells] at hu; rcases hu with rfl | rfl <;> rfl, .inl ⟨_, 1, rfl, fun j u hj => World.news_of_block h j u (by simpa [pcells] using hj)⟩⟩
theorem pcells_one (O : KVs) : ∀ u ∈ O.flatMap pcells, u.oneCell' = true := by
  intro u hu
  obtain ⟨p, _, hp⟩ := List.mem_flatMap.1 hu
  simp [pcells] at hp
  rcases hp with rfl | rfl <;> rfl
/-- The two halves of a row of the call's own. -/
theorem rowAt_take (W : World) (B n j c ga : Nat) (O : KVs) (h : W.ownsRow B 36 2 (.slice (some ⟨ga, 0, none⟩) O.length n) O.length (O.flatMap pcells)) (hj : j ≤ O.length) : RowAt W (.slice (some ⟨ga, 0, none⟩) j c) j 2 ((O.take j).flatMap pcells) := by
  refine ⟨by rw [pcells_len, List.length_take]; omega, pcells_one _, .inl ⟨_, c, rfl, fun i u hi => World.ownsRow.cells h rfl i u ?_⟩⟩
  have e : O.flatMap pcells = (O.take j).flatMap pcells ++ (O.drop j).flatMap pcells := by rw [← List.flatMap_append, List.take_append_drop]
  rw [e, List.getElem?_append_left (List.getElem?_eq_some_iff.1 hi).1]
  exact hi
theorem rowAt_drop (W : World) (B n j c ga : Nat) (O : KVs) (h : W.ownsRow B 36 2 (.slice (some ⟨ga, 0, none⟩) O.length n) O.length (O.flatMap pcells)) (hj : j ≤ O.length) : RowAt W (.slice (some ⟨ga, j * 2, none⟩) (O.length - j) c) (O.length - j) 2 ((O.drop j).flatMap pcells) := by
  refine ⟨by rw [pcells_len, List.length_drop], pcells_one _, .inl ⟨_, c, rfl, fun i u hi => ?_⟩⟩
  have e : O.flatMap pcells = (O.take j).flatMap pcells ++ (O.drop j).flatMap pcells := by rw [← List.flatMap_append, List.take_append_drop]
  have hl : ((O.take j).flatMap pcells).length = j * 2 := by rw [pcells_len, List.length_take]; congr 1; omega
  have h2 := World.ownsRow.cells h rfl (j * 2 + i) u (by
    rw [e, List.getElem?_append_right (by omega), hl, Nat.add_sub_cancel_left]
    exact hi)
  rw [addr_add] at h2
  have ea : (⟨ga, j * 2, none⟩ : Addr).add i = ⟨ga, j * 2 + i, none⟩ := by unfold Addr.add; split <;> simp_all
  rw [ea]
  exact h2
theorem rowAt_nil (W : World) (ga off c : Nat) : RowAt W (.slice (some ⟨ga, off, none⟩) 0 c) 0 2 (([] : KVs).flatMap pcells) := ⟨rfl, fun u hu => by simp at hu, .inl ⟨_, c, rfl, fun j u h => by simp at h⟩⟩
theorem al_newD (W : World) (o : Obj) (k : Nat) (h : k = W.heap.size) : (W.alloc o).drew.heap[k]? = some o := al_new W o k h
theorem al_oldD (W : World) (o : Obj) (k : Nat) (h : k < W.heap.size) : (W.alloc o).drew.heap[k]? = W.heap[k]? := al_old W o k h
theorem lx_cell2 {w w4 : World} {b i : Nat} {v : Value} (h : w.cell? ⟨b, i, none⟩ = some v) (hb : w4.heap[b]? = w.heap[b]?) : w4.cell? ⟨b, i, none⟩ = some v := by
  unfold World.cell? at h ⊢
  rw [hb]; exact h
/-- No pair of the list has this name. -/
def noName (s : List UInt8) (l : KVs) : Bool := l.all fun q => decide (q.1 ≠ s)
theorem noName_iff (s : List UInt8) (l : KVs) : noName s l = true ↔ s ∉ l.map Prod.fst := by
  unfold noName
  rw [List.all_eq_true]
  constructor
  · intro h hm
    obtain ⟨q, hq, e⟩ := List.mem_map.1 hm
    exact of_decide_eq_true (h q hq) e
  · intro h q hq
    exact decide_eq_true fun e => h (List.mem_map.2 ⟨q, hq, e⟩)
/-- Names that rise. -/
def AscK (l : KVs) : Prop := l.Pairwise fun a b => Op.bytesLess a.1 b.1 = true
theorem less_trans : ∀ a b c : List UInt8, Op.bytesLess a b = true → Op.bytesLess b c = true → Op.bytesLess a c = true
  | a, [], _, h, _ => absurd h (by cases a <;> simp [Op.bytesLess])
  | _, b :: l, [], _, h => absurd h (by simp [Op.bytesLess])
  | [], _ :: _, _ :: _, _, _ => rfl
  | x :: a, y :: b, z :: c, h1, h2 => by
    simp only [Op.bytesLess, Bool.or_eq_true, Bool.and_eq_true, decide_eq_true_eq, beq_iff_eq] at h1 h2 ⊢
    rcases h1 with h1 | ⟨rfl, h1⟩
    · rcases h2 with h2 | ⟨rfl, h2⟩
      · exact .inl (UInt8.lt_trans h1 h2)
      · exact .inl h1
    · rcases h2 with h2 | ⟨rfl, h2⟩
      · exact .inl h2
      · exact .inr ⟨rfl, less_trans a b c h1 h2⟩
theorem less_irrefl : ∀ a : List UInt8, Op.bytesLess a a = false
  | [] => rfl
  | x :: a => by
    simp only [Op.bytesLess, less_irrefl a, Bool.and_false, Bool.or_false, decide_eq_false_iff_not]
    exact UInt8.lt_irrefl x
theorem less_total : ∀ a b : List UInt8, a ≠ b → Op.bytesLess a b = false → Op.bytesLess b a = true
  | [], [], h, _ => absurd rfl h
  | [], _ :: _, _, h => absurd h (by simp [Op.bytesLess])
  | _ :: _, [], _, _ => rfl
  | x :: a, y :: b, h, h2 => by
    simp only [Op.bytesLess, Bool.or_eq_false_iff, Bool.and_eq_false_iff, decide_eq_false_iff_not, beq_eq_false_iff_ne, Bool.or_eq_true, Bool.and_eq_true, decide_eq_true_eq, beq_iff_eq] at h2 ⊢
    by_cases hxy : x = y
    · subst hxy
      refine .inr ⟨rfl, less_total a b (fun e => h (by rw [e])) ?_⟩
      rcases h2.2 with h3 | h3
      · exact absurd rfl h3
      · exact h3
    · refine .inl ?_
      rcases UInt8.lt_or_lt_of_ne hxy with h3 | h3
      · exact absurd h3 h2.1
      · exact h3
theorem asc_insert {O : KVs} {p : List UInt8 × List UInt8} {j : Nat} (h : AscK O) (hl : ∀ q ∈ O.take j, Op.bytesLess q.1 p.1 = true) (hr : ∀ q, O[j]? = some q → Op.bytesLess q.1 p.1 = false) (hn : p.1 ∉ O.map Prod.fst) : AscK (O.take j ++ p :: O.drop j) := by
  unfold AscK at h ⊢
  have hO : O.take j ++ O.drop j = O := List.take_append_drop ..
  rw [← hO, List.pairwise_append] at h
  obtain ⟨h1, h2, h3⟩ := h
  have hp : ∀ q ∈ O.drop j, Op.bytesLess p.1 q.1 = true := by
    cases hd : O.drop j with
    | nil => intro q hq; cases hq
    | cons r t =>
      have hjl : O[j]? = some r := by
        have : (O.drop j)[0]? = some r := by rw [hd]; rfl
        rwa [List.getElem?_drop, Nat.add_zero] at this
      have hrO : r ∈ O := List.mem_of_getElem? hjl
      have h0 : Op.bytesLess p.1 r.1 = true := less_total _ _ (fun e => hn (List.mem_map.2 ⟨r, hrO, e⟩)) (hr r hjl)
      rw [hd, List.pairwise_cons] at h2
      intro q hq
      rcases List.mem_cons.1 hq with rfl | hq
      · exact h0
      · exact less_trans _ _ _ h0 (h2.1 q hq)
  rw [List.pairwise_append]
  refine ⟨h1, List.pairwise_cons.2 ⟨hp, h2⟩, fun a ha b hb => ?_⟩
  rcases List.mem_cons.1 hb with rfl | hb
  · exact hl a ha
  · exact h3 a ha b hb
set_option maxHeartbeats 12800000 in
set_option maxRecDepth 100000 in
theorem mapped_asc (ps : KVs) (v : Value) (w : World) (hQ : Qx w v ps) (hl : ps.length ≤ 100000) :
    Calls Tryd.prog 11 #[v] w fun e w' => ∃ (M : KVs) (mo : Option Addr) (mc : Nat), e = .returned (.slice mo M.length mc) ∧ w'.ownsRow w.heap.size 36 2 (.slice mo M.length mc) M.length (M.flatMap pcells) ∧ M.Perm (lasts ps) ∧ AscK M ∧ Below w.heap.size w w' := by
  obtain ⟨i0, hi, hz0, hz1, hz2⟩ := info_parts Tryd.infoPair
  obtain ⟨ao, cap, rfl, hcp, hx⟩ := hQ
  have HX := Lib.hid hx
  clear hx
  go_enter Tryd.func11, Tryd.ntmps11
  go_wp2
  go_loopg [3, 4, 5, 6, 8, 9, 12] (ps.length + 1) (fun gk v3 v4 v5 v6 v8 v9 v12 wr => ∃ (k : Nat) (O : KVs) (mo : Option Addr) (mc : Nat), v12 = .int .i64 k ∧ v3 = .slice mo O.length mc ∧ k ≤ ps.length ∧ O.length ≤ k ∧ ps.length - k < gk ∧ Hid (wr.ownsRow w.heap.size 36 2 (.slice mo O.length mc) O.length (O.flatMap pcells)) ∧ Hid ((O ++ lasts (ps.drop k)).Perm (lasts ps)) ∧ Hid (AscK O) ∧ Hid (Below w.heap.size w wr))
  case atStart => exact ⟨0, [], none, 0, rfl, rfl, by omega, by simp, by omega, ⟨rfl, .inl ⟨rfl, rfl⟩⟩, List.Perm.refl _, List.Pairwise.nil, Below.refl _ _⟩
  case round =>
    obtain ⟨k, O, mo, mc, rfl, rfl, hk, hok, hg, HO, HP, HAS, HB⟩ := hrel
    have hbs := HB.out.size
    by_cases hlt : k < ps.length
    · obtain ⟨g1, rfl⟩ : ∃ m, gk = m + 1 := ⟨gk - 1, by omega⟩
      have hp := List.getElem?_eq_getElem hlt
      have hd := List.drop_eq_getElem_cons hlt
      generalize ps[k] = p at hp hd
      obtain ⟨g, o, rfl, h0, h1⟩ := HX.out k p hp
      have hlift : ∀ {q : Addr} {u : Value}, w.cell? q = some u → wr.cell? q = some u := fun {q u} h => (HB.out.cell (World.block_lt_of_cell? w _ h)).trans h
      have d0 := hlift h0
      have d1 := hlift h1
      have HDR := Lib.hid hd
      have hBA : Below w.heap.size w (wr.alloc (.cells #[.string (txt p.1), .string (txt p.2)] 36)) := HB.out.alloc hbs _
      have HBA := Lib.hid hBA
      have HOA := Lib.hid (HO.out.alloc (.cells #[.string (txt p.1), .string (txt p.2)] 36))
      have hPB : (wr.alloc (.cells #[.string (txt p.1), .string (txt p.2)] 36)).heap[wr.heap.size]? = some (.cells #[.string (txt p.1), .string (txt p.2)] 36 (0, 0)) := heap_alloc_new _ _
      have HPB := Lib.hid hPB
      clear hp hd h0 h1 hlift hBA hPB
      go_upto_region 6 with fail
      generalize hWA : wr.alloc (.cells #[.string (txt p.1), .string (txt p.2)] 36) = WA at *
      obtain ⟨L, hL⟩ : ∃ L, wr.heap.size = L := ⟨_, rfl⟩
      rw [hL] at HPB ⊢
      have hLW : L < WA.heap.size := by rw [← hWA, ← hL]; show _ < (Array.push _ _).size; rw [Array.size_push]; exact Nat.lt_succ_self _
      have hLB : w.heap.size ≤ L := by omega
      clear hWA hL d0 d1 hbs HO HB
      have hkc : k + 1 ≤ cap := by omega
      have hki : (k : Int) + 1 ≤ cap := by omega
      go_cut [20, 21, 22] (fun s20 s21 s22 W => ∃ oo cc, s20 = .slice (some ⟨g, oo, none⟩) (ps.length - (k + 1)) cc ∧ (k + 1 < ps.length → oo = o + (k + 1) * 2) ∧ s21 = .int .i64 (ps.length - (k + 1) : Nat) ∧ s22 = .int .i64 0 ∧ W = WA)
      case first =>
        as_aux_lemma =>
          by_cases hcc : cap = k + 1
          · subst hcc
            go_wp2
            go_meet
            have hz : ps.length - (k + 1) = 0 := by omega
            exact ⟨o, 0, by rw [hz], by omega, by rw [hz]; rfl, rfl, rfl⟩
          · have hcc2 : 0 < cap - (k + 1) := by omega
            go_wp2
            all_goals first
              | (exfalso; omega)
              | (go_meet; exact ⟨_, _, rfl, fun _ => rfl, rfl, rfl, rfl⟩)
      case rest =>
      as_aux_lemma =>
        obtain ⟨oo, cc, rfl, hoo, rfl, rfl, hwc⟩ := hcut
        obtain rfl := hwc.symm
        obtain ⟨n1, hn1⟩ : ∃ n1, ps.length - (k + 1) = n1 := ⟨_, rfl⟩
        rw [hn1]
        have hdl : (ps.drop (k + 1)).length = n1 := by rw [List.length_drop]; exact hn1
        obtain ⟨R, hR⟩ : ∃ R, noName p.1 (ps.drop (k + 1)) = R := ⟨_, rfl⟩
        have HRI := Lib.hid (noName_iff p.1 (ps.drop (k + 1)))
        rw [hR] at HRI
        have HR0 : Hid (R = (true && noName p.1 ((ps.drop (k + 1)).drop 0))) := by show _ = _; rw [List.drop_zero, hR]; rfl
        have HDL := Lib.hid hdl
        clear hR hdl
        go_wp2
        go_loopg [6, 8, 22] (n1 + 1) (fun gk v6 v8' v22 wq => ∃ (j : Nat) (b : Bool), v22 = .int .i64 j ∧ v6 = .bool b ∧ j ≤ n1 ∧ n1 - j < gk ∧ Hid (R = (b && noName p.1 ((ps.drop (k + 1)).drop j))) ∧ Hid (Below WA.heap.size WA wq))
        case atStart => exact ⟨0, true, rfl, rfl, by omega, by omega, HR0.out, Below.refl _ _⟩
        case round =>
          clear HR0
          obtain ⟨j, b, rfl, rfl, hj, hgj, HR, HQ⟩ := hrel
          have HBW := Lib.hid (HBA.out.trans (HQ.out.mono HBA.out.size))
          have hsq := HQ.out.size
          have hPW : wr.heap[L]? = some (.cells #[.string (txt p.1), .string (txt p.2)] 36 (0, 0)) := (HQ.out.block L hLW).trans HPB.out
          have dp0 : wr.cell? ⟨L, 0, none⟩ = some (.string (txt p.1)) := by simp [World.cell?, hPW]
          by_cases hjl : j < n1
          · obtain ⟨g2, rfl⟩ : ∃ m, gk = m + 1 := ⟨gk - 1, by omega⟩
            have hjd : j < (ps.drop (k + 1)).length := by rw [HDL.out]; exact hjl
            have hq := List.getElem?_eq_getElem hjd
            have hdq := List.drop_eq_getElem_cons hjd
            generalize (ps.drop (k + 1))[j]'hjd = q at hq hdq
            rw [List.getElem?_drop] at hq
            obtain ⟨g', o', e', y0, y1⟩ := HX.out (k + 1 + j) q hq
            cases e'
            have hoo' := hoo (by omega)
            have hlift : ∀ {a : Addr} {u : Value}, w.cell? a = some u → wr.cell? a = some u := fun {a u} h => (HBW.out.cell (World.block_lt_of_cell? w _ h)).trans h
            have z0 := hlift y0
            have z1 := hlift y1
            rw [show o + (k + 1 + j) * 2 = oo + j * 2 by omega] at z0 z1
            have HQ2 := Lib.hid (HQ.out.alloc hsq (.cells #[.string (txt q.1), .string (txt q.2)] 36))
            have HRS : Hid (R = (b && (decide (q.1 ≠ p.1) && noName p.1 ((ps.drop (k + 1)).drop (j + 1))))) := by show _ = _; rw [HR.out, hdq]; rfl
            have hLr : L < wr.heap.size := by omega
            clear hq hdq hjd y0 y1 hlift HR hPW hoo'
            cases b with
            | false =>
              have HR3 : Hid (R = (false && noName p.1 ((ps.drop (k + 1)).drop (j + 1)))) := by show _ = _; rw [HRS.out]; rfl
              clear HRS
              go_wp2
              go_roundg g2
              case rel => exact ⟨j + 1, false, by go_num, rfl, by omega, by omega, HR3.out, HQ2.out⟩
              case measure => omega
            | true =>
              by_cases hqp : q.1 = p.1
              · have hne : ((txt q.1).toList == (txt p.1).toList) = true := by rw [hqp]; simp
                have hne2 : ((txt q.1).toList != (txt p.1).toList) = false := by rw [hqp]; simp
                have HR3 : Hid (R = (false && noName p.1 ((ps.drop (k + 1)).drop (j + 1)))) := by show _ = _; rw [HRS.out]; simp [hqp]
                clear HRS hqp
                go_wp2
                go_roundg g2
                case rel => exact ⟨j + 1, false, by go_num, by simp, by omega, by omega, HR3.out, HQ2.out⟩
                case measure => omega
              · have hne : ((txt q.1).toList == (txt p.1).toList) = false := by rw [txt_toList, txt_toList]; exact beq_eq_false_iff_ne.2 hqp
                have hne2 : ((txt q.1).toList != (txt p.1).toList) = true := by rw [bne, hne]; rfl
                have HR3 : Hid (R = (true && noName p.1 ((ps.drop (k + 1)).drop (j + 1)))) := by show _ = _; rw [HRS.out]; simp [hqp]
                clear HRS hqp
                go_wp2
                go_roundg g2
                case rel => exact ⟨j + 1, true, by go_num, by simp, by omega, by omega, HR3.out, HQ2.out⟩
                case measure => omega
          · have hRb : R = b := by
              have := HR.out
              rw [show j = n1 by omega, ← HDL.out, List.drop_length] at this
              rw [this]; simp [noName]
            subst hRb
            clear HR
            cases R with
            | false =>
              have HPN : Hid ((O ++ lasts (ps.drop (k + 1))).Perm (lasts ps)) := by
                show List.Perm _ _
                have h2 := HP.out
                rw [HDR.out, lasts_cons, if_pos] at h2
                · exact h2
                · by_cases hm : p.1 ∈ (ps.drop (k + 1)).map Prod.fst
                  · exact hm
                  · have := HRI.out.2 hm; cases this
              have HON := Lib.hid (owns_below HOA.out HQ.out)
              clear HP HOA dp0 hPW
              go_wp2
              go_roundg g1
              case rel => exact ⟨k + 1, O, mo, mc, by go_num, rfl, by omega, by omega, by omega, HON.out, HPN.out, HAS.out, HBW.out⟩
              case measure => omega
            | true =>
              have hnm : p.1 ∉ (ps.drop (k + 1)).map Prod.fst := HRI.out.1 rfl
              have hPN : (p :: O ++ lasts (ps.drop (k + 1))).Perm (lasts ps) := by
                have h2 := HP.out
                rw [HDR.out, lasts_cons, if_neg hnm] at h2
                exact List.perm_middle.symm.trans h2
              have HPN := Lib.hid hPN
              have HNO : Hid (p.1 ∉ O.map Prod.fst) := by
                show ¬ _
                intro hm
                have hk1 := (hPN.map Prod.fst).nodup_iff.2 (lasts_keys ps).1
                rw [List.cons_append, List.map_cons, List.nodup_cons, List.map_append] at hk1
                exact hk1.1 (List.mem_append.2 (.inl hm))
              have HON := Lib.hid (owns_below HOA.out HQ.out)
              have HPW := Lib.hid hPW
              have hLr : L < wr.heap.size := by omega
              clear HP HOA dp0 hPW hPN hnm HRI
              go_wp2
              rename World => v8
              go_loopg [9] (O.length + 1) (fun gk v9 wq => ∃ j : Nat, v9 = .int .i64 j ∧ j ≤ O.length ∧ O.length - j < gk ∧ Hid (∀ q ∈ O.take j, Op.bytesLess q.1 p.1 = true) ∧ Hid (Below v8.heap.size v8 wq))
              case atStart => exact ⟨0, rfl, by omega, by omega, (fun q hq => by simp at hq), Below.refl _ _⟩
              case round =>
                obtain ⟨j2, rfl, hj2, hgj2, HLT, HQ3⟩ := hrel
                have HOW := Lib.hid (owns_below HON.out HQ3.out)
                have hPr : wr.heap[L]? = some (.cells #[.string (txt p.1), .string (txt p.2)] 36 (0, 0)) := (HQ3.out.block L hLr).trans HPW.out
                have dp0 : wr.cell? ⟨L, 0, none⟩ = some (.string (txt p.1)) := by simp [World.cell?, hPr]
                have HPr := Lib.hid hPr
                clear hPr
                go_upto_region 13 with fail
                go_cut [50] (fun s W => ∃ b : Bool, s = .bool b ∧ (b = true → j2 < O.length) ∧ Hid (∀ q, O[j2]? = some q → Op.bytesLess q.1 p.1 = b) ∧ Hid (Below wr.heap.size wr W))
                case first =>
                  as_aux_lemma =>
                    by_cases hjo : j2 < O.length
                    · have hq := List.getElem?_eq_getElem hjo
                      generalize O[j2] = q at hq
                      have HQQ := Lib.hid hq
                      obtain ⟨bl, hbl⟩ : ∃ x, Op.bytesLess (txt q.1).toList (txt p.1).toList = x := ⟨_, rfl⟩
                      have HBL : Hid (Op.bytesLess q.1 p.1 = bl) := by
                        show _ = _
                        rw [txt_toList, txt_toList] at hbl
                        exact hbl
                      obtain ⟨ga, _, hga⟩ := owns_some HOW.out (by omega)
                      subst hga
                      have z0 : wr.cell? ⟨ga, j2 * 2, none⟩ = some (.string (txt q.1)) := by
                        have hz := World.ownsRow.cells HOW.out rfl _ _ ((pcells_get O j2 q 0 hq (by omega)).trans rfl)
                        rw [addr_add, Nat.add_zero] at hz
                        exact hz
                      have hji : (j2 : Int) < O.length := by omega
                      clear hq
                      go_quiet (fail)
                      go_wp2
                      go_meet
                      have HFQ : ∀ q', O[j2]? = some q' → Op.bytesLess q'.1 p.1 = bl := fun q' hq' => by
                        have := HQQ.out
                        rw [hq'] at this
                        cases this
                        exact HBL.out
                      first
                        | exact ⟨bl, rfl, (fun _ => hjo), HFQ, drewN_below wr _⟩
                        | exact ⟨bl, by simp, (fun _ => hjo), HFQ, drewN_below wr _⟩
                        | (cases bl <;> exact ⟨_, rfl, (fun _ => hjo), HFQ, drewN_below wr _⟩)
                    · have hji : decide ((j2 : Int) < O.length) = false := decide_eq_false (by omega)
                      go_quiet (fail)
                      go_wp2
                      go_meet
                      exact ⟨false, rfl, (fun h => by cases h), (fun q' hq' => absurd (List.getElem?_eq_some_iff.1 hq').1 hjo), drewN_below wr _⟩
                case rest =>
                as_aux_lemma =>
                  obtain ⟨b, rfl, hbj, HBQ, HC⟩ := hcut
                  cases b with
                  | true =>
                    have hjo := hbj rfl
                    obtain ⟨g4, rfl⟩ : ∃ m, gk = m + 1 := ⟨gk - 1, by omega⟩
                    have HQ4 := Lib.hid (HQ3.out.trans (HC.out.mono HQ3.out.size))
                    have HLT2 : Hid (∀ q ∈ O.take (j2 + 1), Op.bytesLess q.1 p.1 = true) := by
                      show ∀ _ _, _
                      intro q hq
                      rw [List.take_succ_eq_append_getElem hjo] at hq
                      rcases List.mem_append.1 hq with hq | hq
                      · exact HLT.out q hq
                      · rw [List.mem_singleton.1 hq]; exact HBQ.out _ (List.getElem?_eq_getElem hjo)
                    clear hbj HQ3 HC dp0
                    go_wp2
                    go_roundg g4
                    case rel => exact ⟨j2 + 1, by go_num, by omega, by omega, HLT2.out, HQ4.out⟩
                    case measure => omega
                  | false =>
                    have HO5 := Lib.hid (owns_below HOW.out HC.out)
                    have HAI := Lib.hid (asc_insert HAS.out HLT.out HBQ.out HNO.out)
                    have hLw : L < wr.heap.size := (Array.getElem?_eq_some_iff.1 HPr.out).1
                    have hP5 : wc.heap[L]? = some (.cells #[.string (txt p.1), .string (txt p.2)] 36 (0, 0)) := (HC.out.block L hLw).trans HPr.out
                    have HB5 := Lib.hid (HBW.out.trans ((HQ3.out.trans (HC.out.mono HQ3.out.size)).mono HBW.out.size))
                    have HP5 := Lib.hid hP5
                    have e0 : wc.cell? ⟨L, 0, none⟩ = some (.string (txt p.1)) := by simp [World.cell?, hP5]
                    have e1 : wc.cell? ⟨L, 1, none⟩ = some (.string (txt p.2)) := by simp [World.cell?, hP5]
                    clear hbj HQ3 HC dp0 HOW HPr HPW HON hP5 hLw
                    go_upto_region 15 with fail
                    have hlw : L < wc.heap.size := World.block_lt_of_cell? wc _ e0
                    have hlO : (O.take j2 ++ p :: O.drop j2).length = O.length + 1 := by simp; omega
                    have hln : 0 + j2 + 1 + (O.length - j2) = O.length + 1 := by omega
                    have HPN2 : Hid (((O.take j2 ++ p :: O.drop j2) ++ lasts (ps.drop (k + 1))).Perm (lasts ps)) := by
                      show List.Perm _ _
                      refine List.Perm.trans ?_ HPN.out
                      refine List.Perm.append_right _ ?_
                      refine List.perm_middle.trans ?_
                      rw [List.take_append_drop]
                    clear HPN HP5
                    rcases hmo : mo with _ | ad
                    · subst hmo
                      have h0 : O.length = 0 ∧ mc = 0 := by
                        rcases HO5.out.2 with ⟨h0, h1⟩ | ⟨g5, c5, cur, h0, _⟩
                        · simp at h0; exact ⟨h1, h0.2⟩
                        · cases h0
                      have hjm : j2 ≤ mc := by omega
                      have HTK : Hid (∀ W, Below wc.heap.size wc W → RowAt W (.slice none j2 mc) j2 2 ((O.take j2).flatMap pcells)) := fun W _ => by
                        have h1 : j2 = 0 := by omega
                        subst h1
                        exact ⟨rfl, fun u hu => by simp at hu, .inr ⟨rfl, mc, rfl⟩⟩
                      have HDP : Hid (∀ W, Below wc.heap.size wc W → RowAt W (.slice none (O.length - j2) (mc - j2)) (O.length - j2) 2 ((O.drop j2).flatMap pcells)) := fun W _ => by
                        have h1 : O.length - j2 = 0 := by omega
                        rw [h1, List.drop_eq_nil_of_le (by omega)]
                        exact ⟨rfl, fun u hu => by simp at hu, .inr ⟨rfl, _, rfl⟩⟩
                      have hol0 : O.length ≤ mc := by omega
                      have H0 := Lib.hid h0
                      clear h0
                      go_region_law (first
                        | (refine step_append_free _ rfl (.tmp 53) (.tmp 56) 24 rfl wc.heap.size 36 i0 _ 2 32 Tryd.underlying24 hi hz0 hz1 hz2 rfl (by decide) _ 0 [] rfl (row_empty _ _ _ (by first | exact al_newD _ _ _ (by simp) | exact al_new _ _ _ (by simp) | exact (al_oldD _ _ _ (by simp)).trans (al_new _ _ _ (by simp)) | exact (al_old _ _ _ (by simp)).trans (al_newD _ _ _ (by simp)) | exact (al_old _ _ _ (by simp)).trans (al_new _ _ _ (by simp))) (by first | exact Nat.le_refl _ | exact Nat.le_succ _ | simp)) _ j2 ((O.take j2).flatMap pcells) rfl (HTK.out _ (by first | exact (((Below.refl _ _).alloc (by simp) _).alloc (by simp) _).drew | exact (((Below.refl _ _).alloc (by simp) _).drew.alloc (by simp) _) | exact (((Below.refl _ _).alloc (by simp) _).drew) | exact (((Below.refl _ _).drew.alloc (by simp) _).alloc (by simp) _) | exact ((Below.refl _ _).drew.alloc (by simp) _))) (by omega) (by omega) (by first | (simp; done) | (simp; omega)) ?_
                           intro ao4 c4 w4 hown4 hb4 hk4 hs4
                           have hbw4 : Below wc.heap.size wc w4 := Below.trans (by first | exact (((Below.refl _ _).alloc (by simp) _).alloc (by simp) _).drew | exact (((Below.refl _ _).alloc (by simp) _).drew.alloc (by simp) _) | exact (((Below.refl _ _).alloc (by simp) _).drew) | exact (((Below.refl _ _).drew.alloc (by simp) _).alloc (by simp) _) | exact ((Below.refl _ _).drew.alloc (by simp) _)) hb4
                           try have hP4 : w4.heap[wc.heap.size + 1]? = some (.cells #[.string (txt p.1), .string (txt p.2)] 36 (0, 0)) := (hk4 _ (by first | (simp; done) | (simp; omega)) (by (simp [Value.ownBlock, Act.eval]; done))).trans (by first | exact al_newD _ _ _ (by simp) | exact al_new _ _ _ (by simp))
                           try have hP4 : w4.heap[wc.heap.size]? = some (.cells #[.string (txt p.1), .string (txt p.2)] 36 (0, 0)) := (hk4 _ (by first | (simp; done) | (simp; omega)) (by (simp [Value.ownBlock, Act.eval]; done))).trans (by first | exact (al_oldD _ _ _ (by simp)).trans (al_new _ _ _ (by simp)) | exact (al_old _ _ _ (by simp)).trans (al_newD _ _ _ (by simp)) | exact (al_old _ _ _ (by simp)).trans (al_new _ _ _ (by simp)))
                           clear hb4 hk4 hs4
                           have hL4 := hbw4.block L hlw
                           have e04 := lx_cell2 e0 hL4
                           have e14 := lx_cell2 e1 hL4)
                        | (refine step_append_free _ rfl (.tmp 57) (.tmp 59) 24 rfl wc.heap.size 36 i0 _ 2 32 Tryd.underlying24 hi hz0 hz1 hz2 rfl (by decide) (.slice ao4 (0 + j2) c4) (0 + j2) _ (by simp [Act.eval]) (by first | exact hown4 | exact hown4.alloc _) _ 1 (pcells p) rfl (rowAt_block _ _ p (by first | exact hP4 | exact al_new _ _ _ (by simp))) (by omega) (by omega) (by first | exact hbw4.size | (simp; exact Nat.le_succ_of_le hbw4.size)) ?_
                           intro ao5 c5 w5 hown5 hb5 hk5 hs5
                           have hbw5 : Below wc.heap.size wc w5 := Below.trans (by first | exact hbw4 | exact hbw4.alloc hbw4.size _) hb5
                           clear hb5 hk5 hs5)
                        | (refine step_append_free _ rfl (.tmp 60) (.tmp 63) 24 rfl wc.heap.size 36 i0 _ 2 32 Tryd.underlying24 hi hz0 hz1 hz2 rfl (by decide) (.slice ao5 (0 + j2 + 1) c5) (0 + j2 + 1) _ (by simp [Act.eval]) hown5 _ (O.length - j2) ((O.drop j2).flatMap pcells) rfl (HDP.out _ hbw5) (by omega) (by omega) hbw5.size ?_
                           intro ao6 c6 w6 hown6 hb6 hk6 hs6
                           have hbw6 : Below wc.heap.size wc w6 := hbw5.trans hb6
                           clear hb6 hk6 hs6))
                      all_goals
                        have hon6 : w6.ownsRow w.heap.size 36 2 (.slice ao6 (0 + j2 + 1 + (O.length - j2)) c6) (0 + j2 + 1 + (O.length - j2)) ((O.take j2 ++ p :: O.drop j2).flatMap pcells) := by
                          refine owns_base (B := wc.heap.size) ?_ HB5.out.size
                          have e : (O.take j2 ++ p :: O.drop j2).flatMap pcells = ([] ++ (O.take j2).flatMap pcells ++ pcells p) ++ (O.drop j2).flatMap pcells := by simp
                          rw [e]
                          exact hown6
                        have HON := Lib.hid hon6
                        have HB6 := Lib.hid (HB5.out.trans (hbw6.mono HB5.out.size))
                        clear hown4 hown5 hown6 hon6 hbw4 hbw5 hbw6
                        go_wp2
                        go_roundg g1
                        case rel => exact ⟨k + 1, O.take j2 ++ p :: O.drop j2, ao6, c6, by go_num, by rw [hlO, show j2 + 1 + (O.length - j2) = O.length + 1 by omega], by omega, by rw [hlO]; omega, by omega, by show World.ownsRow _ _ _ _ _ _ _; rw [hlO, ← hln]; exact HON.out, HPN2.out, HAI.out, HB6.out⟩
                        case measure => omega
                    · obtain ⟨ga, hga⟩ : ∃ ga, ad = ⟨ga, 0, none⟩ := by
                        subst hmo
                        rcases HO5.out.2 with ⟨h0, _⟩ | ⟨g5, c5, cur, h0, _⟩
                        · cases h0
                        · cases h0; exact ⟨g5, rfl⟩
                      subst hga
                      subst hmo
                      have hcm : O.length ≤ mc := by
                        rcases HO5.out.2 with ⟨h0, _⟩ | ⟨g5, c5, cur, h0, _, _, h3, _⟩
                        · cases h0
                        · cases h0; exact h3
                      have hjm : j2 ≤ mc := by omega
                      have HTK : Hid (∀ W, Below wc.heap.size wc W → RowAt W (.slice (some ⟨ga, 0, none⟩) j2 mc) j2 2 ((O.take j2).flatMap pcells)) := fun W hW => (rowAt_take wc _ _ j2 mc ga O HO5.out hj2).below hW
                      by_cases hmj : mc = j2
                      · subst hmj
                        have HDP : Hid (∀ W, Below wc.heap.size wc W → RowAt W (.slice (some ⟨ga, 0, none⟩) 0 0) 0 2 ((O.drop mc).flatMap pcells)) := fun W _ => by
                          rw [List.drop_eq_nil_of_le (by omega)]
                          exact rowAt_nil W ga 0 0
                        go_region_law (first
                          | (refine step_append_free _ rfl (.tmp 53) (.tmp 56) 24 rfl wc.heap.size 36 i0 _ 2 32 Tryd.underlying24 hi hz0 hz1 hz2 rfl (by decide) _ 0 [] rfl (row_empty _ _ _ (by first | exact al_newD _ _ _ (by simp) | exact al_new _ _ _ (by simp) | exact (al_oldD _ _ _ (by simp)).trans (al_new _ _ _ (by simp)) | exact (al_old _ _ _ (by simp)).trans (al_newD _ _ _ (by simp)) | exact (al_old _ _ _ (by simp)).trans (al_new _ _ _ (by simp))) (by first | exact Nat.le_refl _ | exact Nat.le_succ _ | simp)) _ mc ((O.take mc).flatMap pcells) rfl (HTK.out _ (by first | exact (((Below.refl _ _).alloc (by simp) _).alloc (by simp) _).drew | exact (((Below.refl _ _).alloc (by simp) _).drew.alloc (by simp) _) | exact (((Below.refl _ _).alloc (by simp) _).drew) | exact (((Below.refl _ _).drew.alloc (by simp) _).alloc (by simp) _) | exact ((Below.refl _ _).drew.alloc (by simp) _))) (by omega) (by omega) (by first | (simp; done) | (simp; omega)) ?_
                             intro ao4 c4 w4 hown4 hb4 hk4 hs4
                             have hbw4 : Below wc.heap.size wc w4 := Below.trans (by first | exact (((Below.refl _ _).alloc (by simp) _).alloc (by simp) _).drew | exact (((Below.refl _ _).alloc (by simp) _).drew.alloc (by simp) _) | exact (((Below.refl _ _).alloc (by simp) _).drew) | exact (((Below.refl _ _).drew.alloc (by simp) _).alloc (by simp) _) | exact ((Below.refl _ _).drew.alloc (by simp) _)) hb4
                             try have hP4 : w4.heap[wc.heap.size + 1]? = some (.cells #[.string (txt p.1), .string (txt p.2)] 36 (0, 0)) := (hk4 _ (by first | (simp; done) | (simp; omega)) (by (simp [Value.ownBlock, Act.eval]; done))).trans (by first | exact al_newD _ _ _ (by simp) | exact al_new _ _ _ (by simp))
                             try have hP4 : w4.heap[wc.heap.size]? = some (.cells #[.string (txt p.1), .string (txt p.2)] 36 (0, 0)) := (hk4 _ (by first | (simp; done) | (simp; omega)) (by (simp [Value.ownBlock, Act.eval]; done))).trans (by first | exact (al_oldD _ _ _ (by simp)).trans (al_new _ _ _ (by simp)) | exact (al_old _ _ _ (by simp)).trans (al_newD _ _ _ (by simp)) | exact (al_old _ _ _ (by simp)).trans (al_new _ _ _ (by simp)))
                             clear hb4 hk4 hs4
                             have hL4 := hbw4.block L hlw
                             have e04 := lx_cell2 e0 hL4
                             have e14 := lx_cell2 e1 hL4)
                          | (refine step_append_free _ rfl (.tmp 57) (.tmp 59) 24 rfl wc.heap.size 36 i0 _ 2 32 Tryd.underlying24 hi hz0 hz1 hz2 rfl (by decide) (.slice ao4 (0 + mc) c4) (0 + mc) _ (by simp [Act.eval]) (by first | exact hown4 | exact hown4.alloc _) _ 1 (pcells p) rfl (rowAt_block _ _ p (by first | exact hP4 | exact al_new _ _ _ (by simp))) (by omega) (by omega) (by first | exact hbw4.size | (simp; exact Nat.le_succ_of_le hbw4.size)) ?_
                             intro ao5 c5 w5 hown5 hb5 hk5 hs5
                             have hbw5 : Below wc.heap.size wc w5 := Below.trans (by first | exact hbw4 | exact hbw4.alloc hbw4.size _) hb5
                             clear hb5 hk5 hs5)
                          | (refine step_append_free _ rfl (.tmp 60) (.tmp 63) 24 rfl wc.heap.size 36 i0 _ 2 32 Tryd.underlying24 hi hz0 hz1 hz2 rfl (by decide) (.slice ao5 (0 + mc + 1) c5) (0 + mc + 1) _ (by simp [Act.eval]) hown5 _ 0 ((O.drop mc).flatMap pcells) rfl (HDP.out _ hbw5) (by omega) (by omega) hbw5.size ?_
                             intro ao6 c6 w6 hown6 hb6 hk6 hs6
                             have hbw6 : Below wc.heap.size wc w6 := hbw5.trans hb6
                             clear hb6 hk6 hs6))
                        all_goals
                          have hon6 : w6.ownsRow w.heap.size 36 2 (.slice ao6 (0 + mc + 1 + 0) c6) (0 + mc + 1 + 0) ((O.take mc ++ p :: O.drop mc).flatMap pcells) := by
                            refine owns_base (B := wc.heap.size) ?_ HB5.out.size
                            have e : (O.take mc ++ p :: O.drop mc).flatMap pcells = ([] ++ (O.take mc).flatMap pcells ++ pcells p) ++ (O.drop mc).flatMap pcells := by simp
                            rw [e]
                            exact hown6
                          have HON := Lib.hid hon6
                          have HB6 := Lib.hid (HB5.out.trans (hbw6.mono HB5.out.size))
                          clear hown4 hown5 hown6 hon6 hbw4 hbw5 hbw6
                          go_wp2
                          go_roundg g1
                          case rel => exact ⟨k + 1, O.take mc ++ p :: O.drop mc, ao6, c6, by go_num, by rw [hlO, show O.length = mc by omega], by omega, by rw [hlO]; omega, by omega, by show World.ownsRow _ _ _ _ _ _ _; rw [hlO, show O.length + 1 = 0 + mc + 1 + 0 by omega]; exact HON.out, HPN2.out, HAI.out, HB6.out⟩
                          case measure => omega
                      · have hmj2 : 0 < mc - j2 := by omega
                        have HDP : Hid (∀ W, Below wc.heap.size wc W → RowAt W (.slice (some ⟨ga, j2 * 2, none⟩) (O.length - j2) (mc - j2)) (O.length - j2) 2 ((O.drop j2).flatMap pcells)) := fun W hW => (rowAt_drop wc _ _ j2 (mc - j2) ga O HO5.out hj2).below hW
                        go_region_law (first
                          | (refine step_append_free _ rfl (.tmp 53) (.tmp 56) 24 rfl wc.heap.size 36 i0 _ 2 32 Tryd.underlying24 hi hz0 hz1 hz2 rfl (by decide) _ 0 [] rfl (row_empty _ _ _ (by first | exact al_newD _ _ _ (by simp) | exact al_new _ _ _ (by simp) | exact (al_oldD _ _ _ (by simp)).trans (al_new _ _ _ (by simp)) | exact (al_old _ _ _ (by simp)).trans (al_newD _ _ _ (by simp)) | exact (al_old _ _ _ (by simp)).trans (al_new _ _ _ (by simp))) (by first | exact Nat.le_refl _ | exact Nat.le_succ _ | simp)) _ j2 ((O.take j2).flatMap pcells) rfl (HTK.out _ (by first | exact (((Below.refl _ _).alloc (by simp) _).alloc (by simp) _).drew | exact (((Below.refl _ _).alloc (by simp) _).drew.alloc (by simp) _) | exact (((Below.refl _ _).alloc (by simp) _).drew) | exact (((Below.refl _ _).drew.alloc (by simp) _).alloc (by simp) _) | exact ((Below.refl _ _).drew.alloc (by simp) _))) (by omega) (by omega) (by first | (simp; done) | (simp; omega)) ?_
                             intro ao4 c4 w4 hown4 hb4 hk4 hs4
                             have hbw4 : Below wc.heap.size wc w4 := Below.trans (by first | exact (((Below.refl _ _).alloc (by simp) _).alloc (by simp) _).drew | exact (((Below.refl _ _).alloc (by simp) _).drew.alloc (by simp) _) | exact (((Below.refl _ _).alloc (by simp) _).drew) | exact (((Below.refl _ _).drew.alloc (by simp) _).alloc (by simp) _) | exact ((Below.refl _ _).drew.alloc (by simp) _)) hb4
                             try have hP4 : w4.heap[wc.heap.size + 1]? = some (.cells #[.string (txt p.1), .string (txt p.2)] 36 (0, 0)) := (hk4 _ (by first | (simp; done) | (simp; omega)) (by (simp [Value.ownBlock, Act.eval]; done))).trans (by first | exact al_newD _ _ _ (by simp) | exact al_new _ _ _ (by simp))
                             try have hP4 : w4.heap[wc.heap.size]? = some (.cells #[.string (txt p.1), .string (txt p.2)] 36 (0, 0)) := (hk4 _ (by first | (simp; done) | (simp; omega)) (by (simp [Value.ownBlock, Act.eval]; done))).trans (by first | exact (al_oldD _ _ _ (by simp)).trans (al_new _ _ _ (by simp)) | exact (al_old _ _ _ (by simp)).trans (al_newD _ _ _ (by simp)) | exact (al_old _ _ _ (by simp)).trans (al_new _ _ _ (by simp)))
                             clear hb4 hk4 hs4
                             have hL4 := hbw4.block L hlw
                             have e04 := lx_cell2 e0 hL4
                             have e14 := lx_cell2 e1 hL4)
                          | (refine step_append_free _ rfl (.tmp 57) (.tmp 59) 24 rfl wc.heap.size 36 i0 _ 2 32 Tryd.underlying24 hi hz0 hz1 hz2 rfl (by decide) (.slice ao4 (0 + j2) c4) (0 + j2) _ (by simp [Act.eval]) (by first | exact hown4 | exact hown4.alloc _) _ 1 (pcells p) rfl (rowAt_block _ _ p (by first | exact hP4 | exact al_new _ _ _ (by simp))) (by omega) (by omega) (by first | exact hbw4.size | (simp; exact Nat.le_succ_of_le hbw4.size)) ?_
                             intro ao5 c5 w5 hown5 hb5 hk5 hs5
                             have hbw5 : Below wc.heap.size wc w5 := Below.trans (by first | exact hbw4 | exact hbw4.alloc hbw4.size _) hb5
                             clear hb5 hk5 hs5)
                          | (refine step_append_free _ rfl (.tmp 60) (.tmp 63) 24 rfl wc.heap.size 36 i0 _ 2 32 Tryd.underlying24 hi hz0 hz1 hz2 rfl (by decide) (.slice ao5 (0 + j2 + 1) c5) (0 + j2 + 1) _ (by simp [Act.eval]) hown5 _ (O.length - j2) ((O.drop j2).flatMap pcells) rfl (HDP.out _ hbw5) (by omega) (by omega) hbw5.size ?_
                             intro ao6 c6 w6 hown6 hb6 hk6 hs6
                             have hbw6 : Below wc.heap.size wc w6 := hbw5.trans hb6
                             clear hb6 hk6 hs6))
                        all_goals
                          have hon6 : w6.ownsRow w.heap.size 36 2 (.slice ao6 (0 + j2 + 1 + (O.length - j2)) c6) (0 + j2 + 1 + (O.length - j2)) ((O.take j2 ++ p :: O.drop j2).flatMap pcells) := by
                            refine owns_base (B := wc.heap.size) ?_ HB5.out.size
                            have e : (O.take j2 ++ p :: O.drop j2).flatMap pcells = ([] ++ (O.take j2).flatMap pcells ++ pcells p) ++ (O.drop j2).flatMap pcells := by simp
                            rw [e]
                            exact hown6
                          have HON := Lib.hid hon6
                          have HB6 := Lib.hid (HB5.out.trans (hbw6.mono HB5.out.size))
                          clear hown4 hown5 hown6 hon6 hbw4 hbw5 hbw6
                          go_wp2
                          go_roundg g1
                          case rel => exact ⟨k + 1, O.take j2 ++ p :: O.drop j2, ao6, c6, by go_num, by rw [hlO, show j2 + 1 + (O.length - j2) = O.length + 1 by omega], by omega, by rw [hlO]; omega, by omega, by show World.ownsRow _ _ _ _ _ _ _; rw [hlO, ← hln]; exact HON.out, HPN2.out, HAI.out, HB6.out⟩
                          case measure => omega
    · have hO := HO.out
      have HF : Hid (O.Perm (lasts ps)) := by
        show List.Perm _ _
        have := HP.out
        rw [List.drop_eq_nil_of_le (by omega)] at this
        simpa [lasts] using this
      clear HP
      go_wp2
      go_ret
      exact ⟨O, mo, mc, rfl, HO.out, HF.out, HAS.out, HB.out⟩
end Go.Proofs.YtdfhidnhkeapbaaDoor
