/- The law FnEnvOrder: what is written does not turn on the order of the pairs. No condition of its own beyond the tables that are laid. -/
import Derived.Test.YtmmnljepbnifnaaDoorEMapW
import Derived.Test.YtmmnljepbnifnaaDoorEFit
import Derived.Test.YtmmnljepbnifnaaDoorEOpen
import Derived.Laws.OwnMore
namespace Go.Proofs.YtmmnljepbnifnaaDoor
open Go.RowKit U8
open Go.Lib hiding intOf

theorem set_flat : ∀ (M : KVs) (a : Nat) (p : List UInt8 × List UInt8), a < M.length → (M.set a p).flatMap pcells = ((M.flatMap pcells).set (a * 2) (.string (txt p.1))).set (a * 2 + 1) (.string (txt p.2))
  | [], a, p, h => by simp at h
  | q :: M, 0, p, _ => by simp [pcells]
  | q :: M, a + 1, p, h => by
    have ih := set_flat M a p (by simpa using h)
    have hl : (pcells q).length = 2 := rfl
    rw [List.set_cons_succ, List.flatMap_cons, ih, List.flatMap_cons]
    rw [List.set_append_right _ _ (by rw [hl]; omega), List.set_append_right _ _ (by rw [hl]; omega), hl, show (a + 1) * 2 - 2 = a * 2 by omega, show (a + 1) * 2 + 1 - 2 = a * 2 + 1 by omega]
theorem swap_row {w : World} {B ga mc n : Nat} {M : KVs} (hn : M.length = n) (h : w.ownsRow B 36 2 (.slice (some ⟨ga, 0, none⟩) n mc) n (M.flatMap pcells)) (a b : Nat) (p q : List UInt8 × List UInt8) (ha : a < n) (hb : b < n) :
    ((((w.setCell ⟨ga, a * 2, none⟩ (.string (txt q.1))).setCell ⟨ga, a * 2 + 1, none⟩ (.string (txt q.2))).setCell ⟨ga, b * 2, none⟩ (.string (txt p.1))).setCell ⟨ga, b * 2 + 1, none⟩ (.string (txt p.2))).ownsRow B 36 2 (.slice (some ⟨ga, 0, none⟩) n mc) n (((M.set a q).set b p).flatMap pcells) := by
  have h1 := ((((h.stored (a * 2) (.string (txt q.1))).1.stored (a * 2 + 1) (.string (txt q.2))).1.stored (b * 2) (.string (txt p.1))).1.stored (b * 2 + 1) (.string (txt p.2))).1
  rw [set_flat _ _ _ (by rw [List.length_set]; omega), set_flat _ _ _ (by omega)]
  exact h1
theorem swap_perm {M : KVs} {a b : Nat} {p q : List UInt8 × List UInt8} (hp : M[a]? = some p) (hq : M[b]? = some q) : ((M.set a q).set b p).Perm M := by
  obtain ⟨ha, rfl⟩ := List.getElem?_eq_some_iff.1 hp
  obtain ⟨hb, rfl⟩ := List.getElem?_eq_some_iff.1 hq
  exact List.set_set_perm ha hb
theorem wrE_same {a b : KVs} (h : (mapOf a).Perm (mapOf b)) : wrE (mapOf a) = wrE (mapOf b) := by
  unfold wrE
  rw [mergeSort_of_perm (h.map lineE)]
theorem wrE_ab : wrE (mapOf [([65], [98])]) = [65, 61, 34, 98, 34] := by decide +kernel
theorem ab_ne : ((txt [65, 61, 34, 98, 34]) == (⟨#[]⟩ : ByteArray)) = false := by decide +kernel
theorem ab_ne2 : ((txt [65, 61, 34, 98, 34]).toList == ([] : List UInt8)) = false := by rw [txt_toList]; rfl
theorem qx_one (W : World) (B : Nat) (hn : W.heap[B]? = some (.cells #[.string (txt [65]), .string (txt [98])] 36)) : Qx W (.slice (some ⟨B, 0, none⟩) 1 1) [([65], [98])] := by
  refine ⟨_, 1, rfl, by simp, fun j p hj => ?_⟩
  match j, hj with
  | 0, hj =>
    simp at hj
    subst hj
    refine ⟨B, 0, rfl, ?_, ?_⟩
    · simp [World.cell?, hn]
    · simp [World.cell?, hn]
set_option maxHeartbeats 12800000 in
set_option maxRecDepth 100000 in
theorem law_envOrder (ps : KVs) (v : Value) (ts : List UInt8) (vt : Value) (w : World) (hQ : Qx w v ps) (hl : ps.length ≤ 9223372036854775807) (hs : ∀ p ∈ ps, maxQ p) (hB : Bx w vt ts) (hbl : ts.length ≤ 9223372036854775807) (hT : Et w) :
    Calls Tryd.prog 5 #[v, vt] w fun e w' => e = .returned (.bool true) ∧ Below w.heap.size w w' := by
  have HP := Lib.hid hQ
  have HT := Lib.hid hT
  have cF := Lib.hid (fits2_any ps v w hQ hl hs)
  obtain ⟨ao, cap, rfl, hcp, hx⟩ := hQ
  obtain ⟨bo, bcap, rfl, hbx⟩ := hB
  have HBX := Lib.hid hbx
  clear hx hs hT hl hbx
  go_enter Tryd.func5, Tryd.ntmps5
  go_wp2_with fail
  refine cF.out.mono ?_
  rintro e w1 ⟨q, rfl, hb, hq⟩
  have HB1 := Lib.hid hb
  have HQ := Lib.hid hq
  clear hb hq cF
  cases q
  · go_wp2
    go_ret
    exact ⟨rfl, HB1.out⟩
  have hps := HQ.out rfl
  clear HQ
  have HPS := Lib.hid hps
  clear hps
  by_cases hbig : (2147483647 : Int) < ts.length
  · go_wp2
    go_ret
    exact ⟨rfl, HB1.out⟩
  have hra := (Below.refl w1.heap.size w1).alloc (Nat.le_refl _) (.cells #[.string ⟨#[65]⟩, .string ⟨#[98]⟩] 36)
  have HRA := Lib.hid hra
  have hone := qx_one (w1.alloc (.cells #[.string ⟨#[65]⟩, .string ⟨#[98]⟩] 36)) w1.heap.size (heap_alloc_new _ _)
  have cO := writeEnv_any [([65], [98])] _ _ hone (by simp) (by simp) (HT.out.below (HB1.out.trans (HRA.out.mono HB1.out.size)))
  rw [wrE_ab] at cO
  have CO := Lib.hid cO
  clear hone hra cO
  have hne := ab_ne
  have hne2 := ab_ne2
  go_wp2_with fail
  refine CO.out.mono ?_
  rintro e w2 ⟨rfl, hb2⟩
  have HB2 := Lib.hid (HB1.out.trans (((HRA.out.trans (hb2.mono HRA.out.size))).mono HB1.out.size))
  clear hb2 CO HRA
  by_cases h100 : (100 : Int) < ps.length
  · go_wp2
    go_ret
    exact ⟨rfl, HB2.out⟩
  by_cases h1000 : (1000 : Int) < ts.length
  · go_wp2
    go_ret
    exact ⟨rfl, HB2.out⟩
  have cM := Lib.hid (mapped_any ps (.slice ao ps.length cap) w2 (HP.out.below HB2.out) (by omega))
  go_wp2_with fail
  refine cM.out.mono ?_
  rintro e w3 ⟨M0, mo, mc, rfl, hown, hper, hb3⟩
  have HB3 := Lib.hid (HB2.out.trans (hb3.mono HB2.out.size))
  obtain ⟨B, hBB⟩ : ∃ B, w2.heap.size = B := ⟨_, rfl⟩
  rw [hBB] at hown
  have hB3 : B ≤ w3.heap.size := by have := hb3.size; omega
  have hwB : w.heap.size ≤ B := by have := HB2.out.size; omega
  have HOW := Lib.hid hown
  have HPE := Lib.hid hper
  obtain ⟨n, hn⟩ : ∃ n, M0.length = n := ⟨_, rfl⟩
  rw [hn] at HOW
  simp only [hn]
  have hn9 : n ≤ 100 := by
    have h2 : ∀ l : KVs, (lasts l).length ≤ l.length := by
      intro l
      induction l with
      | nil => exact Nat.le_refl _
      | cons q l ih => rw [lasts_cons]; split <;> simp only [List.length_cons] <;> omega
    have := h2 ps
    have := hper.length_eq
    omega
  clear hown hper hb3 cM hne hne2
  go_wp2
  go_loopg [6, 7, 8, 9, 34] (ts.length + 1) (fun gk v6 v7 v8 v9 v34 wr => ∃ (k : Nat) (M : KVs), v34 = .int .i64 k ∧ k ≤ ts.length ∧ ts.length - k < gk ∧ M.length = n ∧ Hid (wr.ownsRow B 36 2 (.slice mo n mc) n (M.flatMap pcells)) ∧ Hid (M.Perm (lasts ps)) ∧ Hid (Below w.heap.size w wr) ∧ B ≤ wr.heap.size)
  case atStart => exact ⟨0, M0, rfl, by omega, by omega, hn, HOW.out, HPE.out, HB3.out, hB3⟩
  case round =>
    clear HOW HPE
    obtain ⟨k, M, rfl, hk, hg, hMn, HO, HM, HB, hBr⟩ := hrel
    by_cases hlt : k < ts.length
    · obtain ⟨gk, rfl⟩ : ∃ m, gk = m + 1 := ⟨gk - 1, by omega⟩
      have hp := List.getElem?_eq_getElem hlt
      generalize ts[k] = t at hp
      obtain ⟨g, o, rfl, h0⟩ := HBX.out k t hp
      have d0 := (HB.out.cell (World.block_lt_of_cell? w _ h0)).trans h0
      obtain ⟨u, hu⟩ : ∃ u, t.toNat = u := ⟨_, rfl⟩
      have hu9 : u < 256 := by rw [← hu]; exact t.toNat_lt
      rw [hu] at d0
      clear hp h0
      by_cases hn0 : n = 0
      · subst hn0
        go_wp2
        go_roundg gk
        case rel => exact ⟨k + 1, M, by go_num, by omega, by omega, hMn, HO.out, HM.out, HB.out, hBr⟩
        case measure => omega
      · obtain ⟨a, ha⟩ : ∃ a, k % n = a := ⟨_, rfl⟩
        obtain ⟨b, hb⟩ : ∃ b, u % n = b := ⟨_, rfl⟩
        have ha9 : a < n := by rw [← ha]; exact Nat.mod_lt _ (by omega)
        have hb9 : b < n := by rw [← hb]; exact Nat.mod_lt _ (by omega)
        have hma : (k : Int).tmod (n : Int) = (a : Int) := by rw [← ha]; exact Int.ofNat_tmod k n ▸ rfl
        have hmb : (u : Int).tmod (n : Int) = (b : Int) := by rw [← hb]; exact Int.ofNat_tmod u n ▸ rfl
        have hpa := List.getElem?_eq_getElem (l := M) (i := a) (by omega)
        have hpb := List.getElem?_eq_getElem (l := M) (i := b) (by omega)
        generalize M[a] = p at hpa
        generalize M[b] = q at hpb
        obtain ⟨ga, hga⟩ : ∃ ga, mo = some ⟨ga, 0, none⟩ := by
          rcases HO.out.2 with ⟨h1, h2⟩ | ⟨g5, c5, cur, h1, _⟩
          · omega
          · cases h1; exact ⟨g5, rfl⟩
        subst hga
        have hgb : B ≤ ga := by
          rcases HO.out.2 with ⟨h1, _⟩ | ⟨g5, c5, cur, h1, h2, _⟩
          · cases h1
          · cases h1; exact h2
        have z0 : ∀ j p i x, M[j]? = some p → i < 2 → (pcells p)[i]? = some x → wr.cell? ⟨ga, j * 2 + i, none⟩ = some x := fun j p i x hj hi hx => by
          have hz := World.ownsRow.cells HO.out rfl _ _ ((pcells_get M j p i hj hi).trans hx)
          rw [addr_add] at hz
          exact hz
        have ca0 : wr.cell? ⟨ga, a * 2, none⟩ = some (.string (txt p.1)) := z0 a p 0 _ hpa (by omega) rfl
        have ca1 : wr.cell? ⟨ga, a * 2 + 1, none⟩ = some (.string (txt p.2)) := z0 a p 1 _ hpa (by omega) rfl
        have cb0 : wr.cell? ⟨ga, b * 2, none⟩ = some (.string (txt q.1)) := z0 b q 0 _ hpb (by omega) rfl
        have cb1 : wr.cell? ⟨ga, b * 2 + 1, none⟩ = some (.string (txt q.2)) := z0 b q 1 _ hpb (by omega) rfl
        have hf := World.ownsRow.frozenAt HO.out
        have HSW := Lib.hid fun m => swap_row hMn (owns_below HO.out (drewN_below wr m)) a b p q ha9 hb9
        have HSP := Lib.hid ((swap_perm hpa hpb).trans HM.out)
        have HSB := Lib.hid fun m => ((((HB.out.trans ((drewN_below wr m).mono HB.out.size)).setCell (p := ⟨ga, a * 2, none⟩) (Nat.le_trans hwB hgb) (.string (txt q.1))).setCell (p := ⟨ga, a * 2 + 1, none⟩) (Nat.le_trans hwB hgb) (.string (txt q.2))).setCell (p := ⟨ga, b * 2, none⟩) (Nat.le_trans hwB hgb) (.string (txt p.1))).setCell (p := ⟨ga, b * 2 + 1, none⟩) (Nat.le_trans hwB hgb) (.string (txt p.2))
        have HSZ := Lib.hid fun m => Nat.le_trans hBr (drewN_below wr m).size
        have hz1 : ((n : Int) == 0) = false := beq_eq_false_iff_ne.2 (by omega)
        have hia : (a : Int) < n := by omega
        have hib : (b : Int) < n := by omega
        clear z0 HO HM HB
        by_cases hab : a = b
        · subst hab
          obtain rfl : p = q := Option.some.inj (hpa.symm.trans hpb)
          clear hpa hpb
          go_wp2
          go_quiet (fail)
          go_wp2
          go_region
          go_wp2
          go_roundg gk
          case rel => exact ⟨k + 1, (M.set a p).set a p, by go_num, by omega, by omega, by simp; exact hMn, HSW.out _, HSP.out, HSB.out _, by simp; exact hBr⟩
          case measure => omega
        · have g1 : ¬ b = a := fun e => hab e.symm
          have g2 : ¬ a * 2 = b * 2 := by omega
          have g3 : ¬ b * 2 = a * 2 := by omega
          have g4 : ¬ a * 2 + 1 = b * 2 := by omega
          have g5 : ¬ b * 2 = a * 2 + 1 := by omega
          have g6 : ¬ b * 2 + 1 = a * 2 := by omega
          have g7 : ¬ a * 2 = b * 2 + 1 := by omega
          clear hpa hpb
          go_wp2
          go_quiet (fail)
          go_wp2
          go_region
          go_wp2
          go_roundg gk
          case rel => exact ⟨k + 1, (M.set a q).set b p, by go_num, by omega, by omega, by simp; exact hMn, HSW.out _, HSP.out, HSB.out _, by simp; exact hBr⟩
          case measure => omega
    · have hown := HO.out
      rw [← hMn] at hown
      have hqx := qx_own hown
      have hR : wrE (mapOf M) = wrE (mapOf ps) := wrE_same (mapOf_any HM.out)
      have hml : M.length ≤ 100 := by omega
      have hmz : ∀ p ∈ M, p.1.length ≤ 2147483647 ∧ p.2.length ≤ 2147483647 := fun p hp => HPS.out.2 p ((lasts_keys ps).2 p (HM.out.mem_iff.1 hp))
      have cA := writeEnv_any ps (.slice ao ps.length cap) wr (HP.out.below HB.out) (by omega) HPS.out.2 (HT.out.below HB.out)
      have cB := fun W (hw : Below wr.heap.size wr W) => writeEnv_any M (.slice mo M.length mc) W (hqx.below hw) hml hmz ((HT.out.below HB.out).below hw)
      rw [hR] at cB
      rw [hMn] at cB
      obtain ⟨R, hRR⟩ : ∃ R, wrE (mapOf ps) = R := ⟨_, rfl⟩
      rw [hRR] at cA cB
      have CA := Lib.hid cA
      have CB := Lib.hid cB
      clear cA cB hown hqx hR hml hmz HO HM
      go_wp2_with fail
      refine CA.out.mono ?_
      rintro e w4 ⟨rfl, hb4⟩
      have HR4 := Lib.hid hb4
      clear hb4 CA
      go_wp2_with fail
      refine (CB.out w4 HR4.out).mono ?_
      rintro e w5 ⟨rfl, hb5⟩
      have HR5 := Lib.hid (HB.out.trans ((HR4.out.trans (hb5.mono HR4.out.size)).mono HB.out.size))
      clear hb5 CB HR4
      go_wp2
      go_ret
      exact ⟨by simp, HR5.out⟩
end Go.Proofs.YtmmnljepbnifnaaDoor
