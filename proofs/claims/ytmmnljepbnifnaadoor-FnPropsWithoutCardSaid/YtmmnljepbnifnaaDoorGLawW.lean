/- The law FnPropsWithout: without a prefix comments are not written. No condition of its own beyond the tables that are laid. -/
import Derived.Test.YtmmnljepbnifnaaDoorGFits
import Derived.Test.YtmmnljepbnifnaaDoorGListC
import Derived.Test.YtmmnljepbnifnaaDoorGWp
import Derived.Test.YtmmnljepbnifnaaDoorGApk
namespace Go.Proofs.YtmmnljepbnifnaaDoor
open Go.RowKit U8
open Go.Lib hiding intOf

theorem Tryd.infoProp : (Tryd.prog.info? 27).map (fun i => (i.zero, i.size, i.bytes)) = some (some (.agg #[.string ⟨#[]⟩, .string ⟨#[]⟩, .string ⟨#[]⟩, .slice none 0 0]), 4, 72) := by kernel_rfl
def bareP (p : PropA) : PropA := ⟨p.k, p.r, [], []⟩
def bcells (p : PropA) : List Value := [.string (txt p.k), .string (txt p.r), .string ⟨#[]⟩, .slice none 0 0]
theorem bare_map (ps : List PropA) : (ps.map bareP).map (fun p => (p.k, p.r)) = ps.map fun p => (p.k, p.r) := by rw [List.map_map]; rfl
theorem bare_keys (ps : List PropA) : (ps.map bareP).map PropA.k = ps.map PropA.k := by rw [List.map_map]; rfl
theorem bcells_len (ps : List PropA) : (ps.flatMap bcells).length = ps.length * 4 := by
  induction ps with
  | nil => rfl
  | cons p ps ih => rw [List.flatMap_cons, List.length_append, ih, List.length_cons]; simp [bcells]; omega
theorem bcells_get : ∀ (ps : List PropA) (j : Nat) (p : PropA) (i : Nat), ps[j]? = some p → i < 4 → (ps.flatMap bcells)[j * 4 + i]? = (bcells p)[i]?
  | [], j, p, i, h, _ => by simp at h
  | q :: ps, 0, p, i, h, hi => by
    simp at h
    subst h
    rw [List.flatMap_cons, List.getElem?_append_left (by simp [bcells]; omega)]
    simp
  | q :: ps, j + 1, p, i, h, hi => by
    have ih := bcells_get ps j p i (by simpa using h) hi
    rw [List.flatMap_cons, List.getElem?_append_right (by simp [bcells]; omega), ← ih]
    congr 1
    simp [bcells]; omega
theorem px_own {w : World} {base : Nat} {v : Value} {ps : List PropA} (h : w.ownsRow base 27 4 v ps.length (ps.flatMap bcells)) : Px w v (ps.map bareP) := by
  rcases h.2 with ⟨rfl, h0⟩ | ⟨g, cap, cur, rfl, _, _, hcp, _⟩
  · have : ps = [] := List.eq_nil_of_length_eq_zero h0
    subst this
    exact ⟨none, 0, rfl, Nat.le_refl _, fun j p hj => by simp at hj⟩
  · refine ⟨_, cap, by rw [List.length_map], by rw [List.length_map]; exact hcp, fun j p hj => ?_⟩
    rw [List.getElem?_map] at hj
    cases hq : ps[j]? with
    | none => rw [hq] at hj; cases hj
    | some q =>
      rw [hq] at hj
      have hpq : bareP q = p := by simpa using hj
      subst hpq
      have ad : ∀ n, (⟨g, 0, none⟩ : Addr).add n = ⟨g, 0 + n, none⟩ := fun n => by unfold Addr.add; split <;> simp_all
      have hc : ∀ i u, i < 4 → (bcells q)[i]? = some u → w.cell? ⟨g, 0 + (j * 4 + i), none⟩ = some u := fun i u hi hu => by
        rw [← ad]
        exact World.ownsRow.cells h rfl _ _ ((bcells_get ps j q i hq hi).trans hu)
      refine ⟨g, 0, .slice none 0 0, rfl, hc 0 _ (by omega) rfl, by rw [Nat.add_assoc]; exact hc 1 _ (by omega) rfl, ?_, ?_, ⟨none, 0, rfl, Nat.le_refl _, fun j y h => by simp [bareP] at h⟩⟩
      · rw [Nat.add_assoc]; exact hc 2 _ (by omega) rfl
      · rw [Nat.add_assoc]; exact hc 3 _ (by omega) rfl
theorem wrAll_len (kv : KV) (h : ∀ p ∈ kv, p.1.length ≤ 4096 ∧ p.2.length ≤ 4096) : (wrAll kv).length ≤ 40964 * kv.length := by
  induction kv with
  | nil => simp [wrAll]
  | cons p kv ih =>
    have h1 := ih fun q hq => h q (by simp [hq])
    obtain ⟨h2, h3⟩ := h p (by simp)
    have e1 := encT_le [32, 58, 61] p.1
    have e2 := encT_le [] p.2
    have e3 : (wrAll (p :: kv)).length = (wrOf p).length + (wrAll kv).length := by simp [wrAll]
    have e4 : (wrOf p).length = (encT [32, 58, 61] p.1).length + (encT [] p.2).length + 4 := by unfold wrOf; simp; omega
    rw [e3, e4, List.length_cons]
    omega
theorem wr_ab : wrAll [([97], [98])] = [97, 32, 61, 32, 98, 10] := by decide +kernel
theorem px_note (W : World) (B C : Nat) (hn : W.heap[B]? = some (.cells #[.string (txt [97]), .string (txt [98]), .string ⟨#[]⟩, .slice (some ⟨C, 0, none⟩) 1 1] 27)) (hc : W.heap[C]? = some (.cells #[.string (txt [99])] 9)) : Px W (.slice (some ⟨B, 0, none⟩) 1 1) [⟨[97], [98], [], [[99]]⟩] := by
  refine ⟨_, 1, rfl, by simp, fun j p hj => ?_⟩
  match j, hj with
  | 0, hj =>
    simp at hj
    subst hj
    refine ⟨B, 0, .slice (some ⟨C, 0, none⟩) 1 1, rfl, ?_, ?_, ?_, ?_, ⟨_, 1, rfl, by simp, fun j x h => ?_⟩⟩
    · simp [World.cell?, hn]
    · simp [World.cell?, hn]
    · simp [World.cell?, hn]; rfl
    · simp [World.cell?, hn]
    · match j, h with
      | 0, h =>
        simp at h
        subst h
        exact ⟨C, 0, rfl, by simp [World.cell?, hc]⟩
set_option maxHeartbeats 12800000 in
set_option maxRecDepth 100000 in
theorem law_propsWithout (ps : List PropA) (v : Value) (w : World) (hP : Px w v ps) (hl : ps.length ≤ 9223372036854775807) (hs : ∀ p ∈ ps, maxP p) (hT : Wt w) :
    Calls Tryd.prog 4 #[v] w fun e w' => e = .returned (.bool true) ∧ Below w.heap.size w w' := by
  have HP := Lib.hid hP
  have HT := Lib.hid hT
  have cF := Lib.hid (fits4_any ps v w hP hl hs)
  obtain ⟨i0, hi, hz0, hz1, hz2⟩ := info_parts Tryd.infoProp
  obtain ⟨ao, cap, rfl, hcp, hx⟩ := hP
  clear hx hs hT hl
  go_enter Tryd.func4, Tryd.ntmps4
  go_wp2_with fail
  refine cF.out.mono ?_
  rintro e w1 ⟨q, rfl, hb, hq⟩
  have HB1 := Lib.hid hb
  have HQ := Lib.hid hq
  clear hb hq
  cases q
  · go_wp2
    go_ret
    exact ⟨rfl, HB1.out⟩
  have hps := HQ.out rfl
  clear HQ
  have hra := ((Below.refl w1.heap.size w1).alloc (Nat.le_refl _) (.cells #[.string ⟨#[99]⟩] 9)).alloc (by simp) (.cells #[.string ⟨#[97]⟩, .string ⟨#[98]⟩, .string ⟨#[]⟩, .slice (some ⟨w1.heap.size, 0, none⟩) 1 1] 27)
  have HRA := Lib.hid hra
  have hone := px_note ((w1.alloc (.cells #[.string ⟨#[99]⟩] 9)).alloc (.cells #[.string ⟨#[97]⟩, .string ⟨#[98]⟩, .string ⟨#[]⟩, .slice (some ⟨w1.heap.size, 0, none⟩) 1 1] 27)) (w1.heap.size + 1) w1.heap.size (al_new _ _ _ (by simp)) (by rw [al_old _ _ _ (by simp)]; exact heap_alloc_new _ _)
  have cO := Lib.hid (wp_plain [⟨[97], [98], [], [[99]]⟩] _ _ hone (by simp) (by simp) (by decide) (by simp) [97, 32, 61, 32, 98, 10] wr_ab (by decide) (HT.out.below (HB1.out.trans (HRA.out.mono HB1.out.size))))
  have HPS := Lib.hid hps
  clear hone hra hps
  go_wp2_with fail
  refine cO.out.mono ?_
  rintro e w2 ⟨rfl, hb2⟩
  have he : ((txt [97, 32, 61, 32, 98, 10]).toList == ([97, 32, 61, 32, 98, 10] : List UInt8)) = true := by rw [txt_toList]; rfl
  have HB2 := Lib.hid (HB1.out.trans (((HRA.out.trans (hb2.mono HRA.out.size))).mono HB1.out.size))
  clear hb2 cO HRA
  have cL := Lib.hid (listed_all ps (.slice ao ps.length cap) w2 (HP.out.below HB2.out) HPS.out.1 (fun p hp => by
    obtain ⟨a, b, c, d⟩ := HPS.out.2 p hp
    exact ⟨a, b, d⟩) (HT.out.u8.below HB2.out))
  go_wp2_with fail
  refine cL.out.mono ?_
  rintro e w3 ⟨q, rfl, hb3, hq⟩
  have HB3 := Lib.hid (HB2.out.trans (hb3.mono HB2.out.size))
  have HQ := Lib.hid hq
  clear hb3 hq cL he
  cases q
  · go_wp2
    go_ret
    exact ⟨rfl, HB3.out⟩
  obtain ⟨hok, hnd⟩ := HQ.out rfl
  have hlen := HPS.out.1
  have hcs : ∀ p ∈ ps, p.c.length ≤ 2147483647 := fun p hp => by
    obtain ⟨_, _, _, d⟩ := HPS.out.2 p hp
    unfold fitsB at d
    rw [Bool.and_eq_true] at d
    exact of_decide_eq_true d.1
  have HOK := Lib.hid hok
  have HND := Lib.hid hnd
  have HCS := Lib.hid hcs
  clear HQ hok hnd hcs
  obtain ⟨T, hT⟩ : ∃ T, wrAll (ps.map fun p => (p.k, p.r)) = T := ⟨_, rfl⟩
  have hTl : T.length ≤ 140737488355328 := by
    have := wrAll_len (ps.map fun p => (p.k, p.r)) (by intro q hq; obtain ⟨p, hp, rfl⟩ := List.mem_map.1 hq; obtain ⟨_, a, b⟩ := HOK.out p hp; exact ⟨a, b⟩)
    rw [hT, List.length_map] at this
    omega
  have HTT := Lib.hid hT
  have HTL := Lib.hid hTl
  clear hT hTl
  have hx := (HP.out.below HB3.out)
  obtain ⟨ao', cap', e1, _, hx⟩ := hx
  cases e1
  have HX := Lib.hid hx
  have HT3 := Lib.hid (HT.out.below HB3.out)
  clear hx
  go_wp2
  go_loopg [5, 7, 31] (ps.length + 1) (fun gk v5 v7 v31 wr => ∃ (k : Nat) (mo : Option Addr) (mc : Nat), v31 = .int .i64 k ∧ v5 = .slice mo k mc ∧ k ≤ ps.length ∧ ps.length - k < gk ∧ Hid (wr.ownsRow w3.heap.size 27 4 (.slice mo k mc) k ((ps.take k).flatMap bcells)) ∧ Hid (Below w3.heap.size w3 wr))
  case atStart => exact ⟨0, none, 0, rfl, rfl, by omega, by omega, ⟨rfl, .inl ⟨rfl, rfl⟩⟩, Below.refl _ _⟩
  case round =>
    obtain ⟨k, mo, mc, rfl, rfl, hk, hg, HO, HB⟩ := hrel
    have hbs := HB.out.size
    by_cases hlt : k < ps.length
    · obtain ⟨gk, rfl⟩ : ∃ m, gk = m + 1 := ⟨gk - 1, by omega⟩
      have hp := List.getElem?_eq_getElem hlt
      have htk := List.take_succ_eq_append_getElem hlt
      generalize ps[k] = p at hp htk
      obtain ⟨g, o1, cv, rfl, h0, h1, h2, h3, h4⟩ := HX.out k p hp
      have c : ∀ {q : Addr} {u : Value}, w3.cell? q = some u → wr.cell? q = some u := fun {q u} h => (HB.out.cell (World.block_lt_of_cell? w3 _ h)).trans h
      have d0 := c h0
      have d1 := c h1
      have d2 := c h2
      have d3 := c h3
      obtain ⟨cao, ccap, rfl, _, _⟩ := h4
      obtain ⟨pk, pr, px, pc⟩ := p
      simp only at d0 d1 d2 d3
      have HTK : Hid ((ps.take (k + 1)).flatMap bcells = (ps.take k).flatMap bcells ++ [.string (txt pk), .string (txt pr), .string ⟨#[]⟩, .slice none 0 0]) := by show _ = _; rw [htk, List.flatMap_append]; rfl
      have HBN := Lib.hid (HB.out.alloc hbs (.cells #[.string (txt pk), .string (txt pr), .string (txt px), .slice cao pc.length ccap] 27))
      have HON := Lib.hid (owns_below HO.out ((Below.refl wr.heap.size wr).alloc (Nat.le_refl _) (.cells #[.string (txt pk), .string (txt pr), .string (txt px), .slice cao pc.length ccap] 27)))
      clear hp htk h0 h1 h2 h3 HO HB
      go_wp2_with (at_builtin; refine wpList_appk rfl _ _ 22 27 rfl 4 i0 _ 72 Tryd.underlying22 hi hz0 hz1 hz2 rfl (by decide) w3.heap.size _ k _ rfl HON.out #[.string (txt pk), .string (txt pr), .string ⟨#[]⟩, .slice none 0 0] rfl (by simp; exact ⟨rfl, rfl, rfl, rfl⟩) _ rfl (by simp) (by omega) (by omega) (by simp; omega) ?_)
      intro ao2 cap2 w4 hown4 hb4 hkeep4
      have HO4 : Hid (w4.ownsRow w3.heap.size 27 4 (.slice ao2 (k + 1) cap2) (k + 1) ((ps.take (k + 1)).flatMap bcells)) := by show World.ownsRow _ _ _ _ _ _ _; rw [HTK.out]; exact hown4
      have HB4 := Lib.hid (HBN.out.trans hb4)
      clear hown4 hb4 hkeep4
      go_wp2
      go_roundg gk
      case rel => exact ⟨k + 1, ao2, cap2, by go_num, rfl, by omega, by omega, HO4.out, HB4.out⟩
      case measure => omega
    · obtain rfl : k = ps.length := by omega
      have hown := HO.out
      rw [List.take_length] at hown
      have hpm := px_own hown
      have HPM := Lib.hid hpm
      have HBW := Lib.hid (HB3.out.trans (HB.out.mono HB3.out.size))
      have hTW := HT3.out.below HB.out
      have hz : ∀ p ∈ ps, p.k.length ≤ 100000 ∧ p.r.length ≤ 100000 := fun p hp => by
        obtain ⟨_, a, b⟩ := HOK.out p hp
        exact ⟨by omega, by omega⟩
      have hmz : ∀ p ∈ ps.map bareP, p.k.length ≤ 100000 ∧ p.r.length ≤ 100000 := fun p hp => by
        obtain ⟨q, hq, rfl⟩ := List.mem_map.1 hp
        exact hz q hq
      have hmc : ∀ p ∈ ps.map bareP, p.c.length ≤ 2147483647 ∧ p.k ≠ [] := fun p hp => by
        obtain ⟨q, hq, rfl⟩ := List.mem_map.1 hp
        exact ⟨by simp [bareP], (HOK.out q hq).1⟩
      have hmn : ((ps.map bareP).map PropA.k).Nodup := by rw [bare_keys]; exact HND.out
      have hmT : wrAll ((ps.map bareP).map fun p => (p.k, p.r)) = T := by rw [bare_map]; exact HTT.out
      have cA := Lib.hid (wp_plain ps (.slice ao ps.length cap) wr (HP.out.below HBW.out) (fun p hp => ⟨HCS.out p hp, (HOK.out p hp).1⟩) HND.out (by omega) hz T HTT.out HTL.out hTW)
      have cB := Lib.hid fun W (hw : Below wr.heap.size wr W) => wp_plain (ps.map bareP) (.slice mo ps.length mc) W (HPM.out.below hw) hmc hmn (by rw [List.length_map]; omega) hmz T hmT HTL.out (hTW.below hw)
      have cC := Lib.hid fun W (hw : Below wr.heap.size wr W) => wp_hash (ps.map bareP) (.slice mo ps.length mc) W (HPM.out.below hw) hmc hmn (by rw [List.length_map]; omega) hmz T hmT HTL.out (hTW.below hw) (fun p hp => by obtain ⟨q, hq, rfl⟩ := List.mem_map.1 hp; rfl)
      clear hown hpm hz hmz hmc hmn hmT hTW HO HB HX HTT HTL
      go_wp2_with fail
      refine cA.out.mono ?_
      rintro e w4 ⟨rfl, hb4⟩
      have HR4 := Lib.hid hb4
      clear hb4 cA
      go_wp2_with fail
      refine (cB.out w4 HR4.out).mono ?_
      rintro e w5 ⟨rfl, hb5⟩
      have HR5 := Lib.hid (HR4.out.trans (hb5.mono HR4.out.size))
      clear hb5 cB
      go_wp2_with fail
      refine (cC.out w5 HR5.out).mono ?_
      rintro e w6 ⟨rfl, hb6⟩
      have HR6 := Lib.hid (HBW.out.trans ((HR5.out.trans (hb6.mono HR5.out.size)).mono HBW.out.size))
      clear hb6 cC
      go_wp2
      go_ret
      exact ⟨by simp, HR6.out⟩
end Go.Proofs.YtmmnljepbnifnaaDoor
