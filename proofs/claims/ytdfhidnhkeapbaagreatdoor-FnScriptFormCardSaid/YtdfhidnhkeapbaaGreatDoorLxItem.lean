/- The lexer as the parser reads it: nextItem. Condition: there is an item left. -/
import Derived.Test.YtdfhidnhkeapbaaGreatDoorLxApp
namespace Go.Proofs.YtdfhidnhkeapbaaGreatDoor
open Go.RowKit U8
open Go.Lib hiding intOf

/-- A lexer that has told its items, at block b: the items that are not read yet. -/
def Lq (B b g : Nat) (its : List LI) (W : World) : Prop :=
  B ≤ b ∧ ∃ (c0 c1 c2 c3 c4 c5 c6 : Value) (o cap : Nat) (cur : Array Value) (fz : Nat × Nat), its.length ≤ cap ∧ B ≤ g ∧
    W.heap[b]? = some (.cells #[c0, c1, c2, c3, c4, c5, c6, .slice (some ⟨g, o, none⟩) its.length cap] 133 (0, 0)) ∧
    W.heap[g]? = some (.cells cur 138 fz) ∧ ∀ j y, (its.flatMap liCells)[j]? = some y → cur[o + j]? = some y
theorem Lq.lt {B b g : Nat} {its : List LI} {W : World} (h : Lq B b g its W) : b < W.heap.size ∧ g < W.heap.size ∧ g ≠ b ∧ B ≤ b ∧ B ≤ g := by
  obtain ⟨h1, _, _, _, _, _, _, _, o, cap, cur, fz, _, h2, h4, h5, _⟩ := h
  refine ⟨(Array.getElem?_eq_some_iff.1 h4).1, (Array.getElem?_eq_some_iff.1 h5).1, ?_, h1, h2⟩
  rintro rfl
  rw [h5] at h4
  cases h4
theorem Lq.keep {B b g : Nat} {its : List LI} {W W' : World} (h : Lq B b g its W) (hb : W'.heap[b]? = W.heap[b]?) (hg : W'.heap[g]? = W.heap[g]?) : Lq B b g its W' := by
  obtain ⟨hBb, c0, c1, c2, c3, c4, c5, c6, o, cap, cur, fz, hcap, hBg, ho, hg2, hx⟩ := h
  exact ⟨hBb, c0, c1, c2, c3, c4, c5, c6, o, cap, cur, fz, hcap, hBg, hb.trans ho, hg.trans hg2, hx⟩
theorem lq_of_lx {w0 : World} {b : Nat} {s rest : List UInt8} {wd : Nat} {acc : List Nat} {its : List LI} {W : World} (h : Lx w0 b s rest wd acc its W) (hn : its ≠ []) : ∃ g, Lq w0.heap.size b g its W := by
  obtain ⟨h1, _, _, q, st, z1, z2, vr, vi, _, _, ho, _, hi⟩ := h
  rcases hi.2 with ⟨_, h0⟩ | ⟨g, cap, cur, rfl, hg, hh, hc, _, hcs, ht⟩
  · exact absurd (List.length_eq_zero_iff.1 h0) hn
  · refine ⟨g, h1, _, _, _, _, _, _, _, 0, cap, cur, (0, 0), hc, hg, ho, hh, fun j y hj => ?_⟩
    rw [Nat.zero_add, ← Array.getElem?_toList]
    rw [← ht] at hj
    rw [List.getElem?_take] at hj
    split at hj
    · exact hj
    · cases hj
set_option maxHeartbeats 1600000 in
set_option maxRecDepth 100000 in
theorem nextItem_any (B b g : Nat) (i : LI) (its : List LI) (w : World) (h : Lq B b g (i :: its) w) (hB : B ≤ w.heap.size) (hl : its.length ≤ 1000000) :
    Calls Tryz.prog 106 #[.pointer (some ⟨b, 0, none⟩)] w fun e w' =>
      e = .returned (.agg #[.int .i64 i.k, .int .i64 i.p, .string (txt i.v)]) ∧ Lq B b g its w' ∧ Below B w w' ∧ (∀ r, r < w.heap.size → r ≠ b → w'.heap[r]? = w.heap[r]?) := by
  obtain ⟨hBb, c0, c1, c2, c3, c4, c5, c6, o, cap, cur, fz, hcap, hBg, ho, hg, hx⟩ := h
  rw [List.length_cons] at hcap
  have d7 : w.cell? ⟨b, 7, none⟩ = some (.slice (some ⟨g, o, none⟩) (its.length + 1) cap) := by simp [World.cell?, ho]
  have f7 : w.frozen? ⟨b, 7, none⟩ = false := by simp [World.frozen?, ho]
  have f5 : w.frozen? ⟨b, 5, none⟩ = false := by simp [World.frozen?, ho]
  have d5 : w.cell? ⟨b, 5, none⟩ = some c5 := by simp [World.cell?, ho]
  have e0 : w.cell? ⟨g, o, none⟩ = some (.int .i64 i.k) := by
    have := hx 0 _ rfl
    simpa [World.cell?, hg] using this
  have e1 : w.cell? ⟨g, o + 1, none⟩ = some (.int .i64 i.p) := by
    have := hx 1 _ rfl
    simpa [World.cell?, hg] using this
  have e2 : w.cell? ⟨g, o + 2, none⟩ = some (.string (txt i.v)) := by
    have := hx 2 _ rfl
    simpa [World.cell?, hg] using this
  have hbl : b < w.heap.size := (Array.getElem?_eq_some_iff.1 ho).1
  have hgl : g < w.heap.size := (Array.getElem?_eq_some_iff.1 hg).1
  have hgb : g ≠ b := by
    rintro rfl
    rw [hg] at ho
    cases ho
  have HO := Lib.hid ho
  have HG := Lib.hid hg
  have HX := Lib.hid hx
  clear ho hg hx
  go_enter Tryz.func106, Tryz.ntmps106
  have key : ∀ (o2 cap2 : Nat) (i2 : Value), its.length ≤ cap2 → (its ≠ [] → o2 = o + 3) → Lq B b g its ((((w.setCell ⟨b, 7, none⟩ (.slice (some ⟨g, o2, none⟩) its.length cap2)).setCell ⟨b, 5, none⟩ (.int .i64 i.p)).alloc (.cells #[.int .i64 i.k, .int .i64 i.p, .string (txt i.v)] 138)).alloc (.cells #[.int .i64 i.k, .int .i64 i.p, .string (txt i.v)] 138)) := by
    intro o2 cap2 _ hc2 ho2
    refine ⟨hBb, c0, c1, c2, c3, c4, .int .i64 i.p, c6, o2, cap2, cur, fz, hc2, hBg, ?_, ?_, fun j y hj => ?_⟩
    · rw [al_old _ _ _ (by simp; omega), al_old _ _ _ (by simp; omega)]
      simp [World.setCell, Array.getElem?_modify, HO.out]
    · rw [al_old _ _ _ (by simp; omega), al_old _ _ _ (by simp; omega), Below.heap_setCell _ _ _ _ (by exact hgb), Below.heap_setCell _ _ _ _ (by exact hgb)]
      exact HG.out
    · have hne : its ≠ [] := by rintro rfl; simp at hj
      rw [ho2 hne]
      have := HX.out (3 + j) y (by
        rw [List.flatMap_cons, List.getElem?_append_right (by simp [liCells])]
        simpa [liCells] using hj)
      rw [← this]
      congr 1
      omega
  have kb : ∀ (v7 : Value), Below B w ((((w.setCell ⟨b, 7, none⟩ v7).setCell ⟨b, 5, none⟩ (.int .i64 i.p)).alloc (.cells #[.int .i64 i.k, .int .i64 i.p, .string (txt i.v)] 138)).alloc (.cells #[.int .i64 i.k, .int .i64 i.p, .string (txt i.v)] 138)) := by
    intro v7
    have h1 := ((Below.refl B w).setCell (p := ⟨b, 7, none⟩) hBb v7).setCell (p := ⟨b, 5, none⟩) hBb (.int .i64 i.p)
    exact (h1.alloc (by simp; omega) _).alloc (by simp; omega) _
  have kf : ∀ (v7 : Value) (r : Nat), r < w.heap.size → ¬ r = b → ((((w.setCell ⟨b, 7, none⟩ v7).setCell ⟨b, 5, none⟩ (.int .i64 i.p)).alloc (.cells #[.int .i64 i.k, .int .i64 i.p, .string (txt i.v)] 138)).alloc (.cells #[.int .i64 i.k, .int .i64 i.p, .string (txt i.v)] 138)).heap[r]? = w.heap[r]? := by
    intro v7 r hr hne
    rw [al_old _ _ _ (by simp; omega), al_old _ _ _ (by simp; omega), Below.heap_setCell _ _ _ _ (by exact hne), Below.heap_setCell _ _ _ _ (by exact hne)]
  have KEY := Lib.hid key
  have KB := Lib.hid kb
  have KF := Lib.hid kf
  clear key kb kf
  go_wp2
  all_goals
    simp [bodyPost, results, Tryz.results106, go_sem]
  · exact ⟨KEY.out _ _ .nilIface (by omega) (fun hne => absurd (List.length_eq_zero_iff.1 (by omega)) hne), KB.out _, KF.out _⟩
  · exact ⟨KEY.out _ _ .nilIface (by omega) (fun _ => rfl), KB.out _, KF.out _⟩
/-- The panic of the parser: a value of type *errors.errorString. -/
def PanE (e : Ending) : Prop := ∃ a : Nat, e = .panicked [{ v := .iface 161 (.pointer (some ⟨a, 0, none⟩)), recovered := false }]
theorem unexpected_any (pb : Nat) (w : World) :
    Calls Tryz.prog 107 #[.pointer (some ⟨pb, 0, none⟩)] w fun e w' => PanE e ∧ Below w.heap.size w w' := by
  go_enter Tryz.func107, Tryz.ntmps107
  go_wp2_with go_in
  simp [bodyPost]
  exact ⟨⟨_, rfl⟩, (Below.refl _ _).alloc (Nat.le_refl _) _⟩
set_option linter.unusedSimpArgs false in
set_option maxHeartbeats 1600000 in
set_option maxRecDepth 100000 in
theorem expect_any (B b gi pb g : Nat) (E : List Nat) (i : LI) (its : List LI) (w : World) (h : Lq B b gi (i :: its) w) (hB : B ≤ w.heap.size) (hl : its.length ≤ 1000000) (hp : w.cell? ⟨pb, 0, none⟩ = some (.pointer (some ⟨b, 0, none⟩)))
    (hgb : g ≠ b) (hE : ∀ j k, E[j]? = some k → w.cell? ⟨g, j, none⟩ = some (.int .i64 (k : Nat))) (hn : E.length ≤ 10) :
    Calls Tryz.prog 89 #[.pointer (some ⟨pb, 0, none⟩), .slice (some ⟨g, 0, none⟩) E.length E.length] w fun e w' =>
      Lq B b gi its w' ∧ Below B w w' ∧ (∀ r, r < w.heap.size → r ≠ b → w'.heap[r]? = w.heap[r]?) ∧ (if i.k ∈ E then e = .returned (.agg #[.int .i64 i.k, .int .i64 i.p, .string (txt i.v)]) else PanE e) := by
  have HE := Lib.hid hE
  have HL0 := Lib.hid h
  have hpl := World.block_lt_of_cell? w _ hp
  simp only at hpl
  obtain ⟨hbl, hgl, hgib, hBb, hBg⟩ := h.lt
  have hla : ∀ (o : Obj), Lq B b gi (i :: its) (w.alloc o) := fun o => h.keep (al_old _ _ _ hbl) (al_old _ _ _ hgl)
  have CN := Lib.hid (nextItem_any B b gi i its _ (hla (.cells #[.int .i64 0, .int .i64 0, .string ⟨#[]⟩] 138)) (by simp; omega) hl)
  clear hla h hE
  go_enter Tryz.func89, Tryz.ntmps89
  go_wp2_with fail
  refine CN.out.mono ?_
  rintro e w1 ⟨rfl, h1, hb1, hk1⟩
  have hres : w1.heap[w.heap.size]? = some (.cells #[.int .i64 0, .int .i64 0, .string ⟨#[]⟩] 138 (0, 0)) := (hk1 _ (by simp) (by omega)).trans (al_new _ _ _ rfl)
  have r0 : w1.cell? ⟨w.heap.size, 0, none⟩ = some (.int .i64 0) := by simp [World.cell?, hres]
  have r1 : w1.cell? ⟨w.heap.size, 1, none⟩ = some (.int .i64 0) := by simp [World.cell?, hres]
  have r2 : w1.cell? ⟨w.heap.size, 2, none⟩ = some (.string ⟨#[]⟩) := by simp [World.cell?, hres]
  have f0 : w1.frozen? ⟨w.heap.size, 0, none⟩ = false := by simp [World.frozen?, hres]
  have f1 : w1.frozen? ⟨w.heap.size, 1, none⟩ = false := by simp [World.frozen?, hres]
  have f2 : w1.frozen? ⟨w.heap.size, 2, none⟩ = false := by simp [World.frozen?, hres]
  have hs1 := hb1.size
  simp only [World.size_alloc] at hs1
  have H1 := Lib.hid h1
  have HB1 := Lib.hid hb1
  have HK1 := Lib.hid hk1
  have HRES := Lib.hid hres
  clear h1 hb1 hk1 hres CN HL0
  go_wp2
  obtain ⟨W2, hW2⟩ : ∃ W2, ((w1.setCell ⟨w.heap.size, 0, none⟩ (.int .i64 i.k)).setCell ⟨w.heap.size, 1, none⟩ (.int .i64 i.p)).setCell ⟨w.heap.size, 2, none⟩ (.string (txt i.v)) = W2 := ⟨_, rfl⟩
  rw [hW2]
  have hres2 : W2.heap[w.heap.size]? = some (.cells #[.int .i64 i.k, .int .i64 i.p, .string (txt i.v)] 138 (0, 0)) := by
    rw [← hW2]; simp [World.setCell, Array.getElem?_modify, HRES.out]
  have hk2 : ∀ r, r ≠ w.heap.size → W2.heap[r]? = w1.heap[r]? := by
    intro r hr
    rw [← hW2, Below.heap_setCell _ _ _ _ (by exact hr), Below.heap_setCell _ _ _ _ (by exact hr), Below.heap_setCell _ _ _ _ (by exact hr)]
  have HL2 : Hid (Lq B b gi its W2) := H1.out.keep (hk2 _ (by omega)) (hk2 _ (by omega))
  have HB2 : Hid (Below B w W2) := by
    have h1 := ((Below.refl B w).alloc hB (.cells #[.int .i64 0, .int .i64 0, .string ⟨#[]⟩] 138)).trans HB1.out
    have h2 := ((h1.setCell (p := ⟨w.heap.size, 0, none⟩) hB (.int .i64 i.k)).setCell (p := ⟨w.heap.size, 1, none⟩) hB (.int .i64 i.p)).setCell (p := ⟨w.heap.size, 2, none⟩) hB (.string (txt i.v))
    rw [← hW2]; exact h2
  have HK2 : Hid (∀ r, r < w.heap.size → r ≠ b → W2.heap[r]? = w.heap[r]?) := by
    show ∀ _, _
    intro r hr hne
    rw [hk2 r (by omega), HK1.out r (by simp; omega) hne, al_old _ _ _ hr]
  have HEE : Hid (∀ j k, E[j]? = some k → W2.cell? ⟨g, j, none⟩ = some (.int .i64 (k : Nat))) := by
    show ∀ _ _, _
    intro j k hj
    have h0 := HE.out j k hj
    have hl := World.block_lt_of_cell? w _ h0
    simp only at hl
    unfold World.cell? at h0 ⊢
    rw [HK2.out g hl hgb]
    exact h0
  have q0 : W2.cell? ⟨w.heap.size, 0, none⟩ = some (.int .i64 i.k) := by simp [World.cell?, hres2]
  have q1 : W2.cell? ⟨w.heap.size, 1, none⟩ = some (.int .i64 i.p) := by simp [World.cell?, hres2]
  have q2 : W2.cell? ⟨w.heap.size, 2, none⟩ = some (.string (txt i.v)) := by simp [World.cell?, hres2]
  have g0 : W2.frozen? ⟨w.heap.size, 0, none⟩ = false := by simp [World.frozen?, hres2]
  have g1 : W2.frozen? ⟨w.heap.size, 1, none⟩ = false := by simp [World.frozen?, hres2]
  have g2 : W2.frozen? ⟨w.heap.size, 2, none⟩ = false := by simp [World.frozen?, hres2]
  have HR2 := Lib.hid hres2
  clear r0 r1 r2 f0 f1 f2 hW2 hres2 hk2 H1 HB1 HK1 HRES HE hs1 hp
  go_loopg [14] (E.length + 1) (fun gk v14 wr => ∃ j : Nat, v14 = .int .i64 j ∧ j ≤ E.length ∧ E.length - j < gk ∧ Hid (∀ x, x ∈ E.take j → x ≠ i.k) ∧ wr = W2)
  case atStart => exact ⟨0, rfl, by omega, by omega, fun x hx => by simp at hx, rfl⟩
  case round =>
    obtain ⟨j, rfl, hj, hg, HX, hwr⟩ := hrel
    obtain rfl := hwr.symm
    by_cases hlt : j < E.length
    · obtain ⟨gk, rfl⟩ : ∃ m, gk = m + 1 := ⟨gk - 1, by omega⟩
      have hp := List.getElem?_eq_getElem hlt
      have htk := List.take_succ_eq_append_getElem hlt
      generalize E[j] = k at hp htk
      have ek := HEE.out j k hp
      have HTK := Lib.hid htk
      have HM : Hid (k ∈ E) := List.mem_of_getElem? hp
      clear hp htk
      by_cases hk : i.k = k
      · subst hk
        go_wp2
        obtain ⟨W3, hW3⟩ : ∃ W3, ((W2.setCell ⟨w.heap.size, 0, none⟩ (.int .i64 i.k)).setCell ⟨w.heap.size, 1, none⟩ (.int .i64 i.p)).setCell ⟨w.heap.size, 2, none⟩ (.string (txt i.v)) = W3 := ⟨_, rfl⟩
        rw [hW3]
        have hres3 : W3.heap[w.heap.size]? = some (.cells #[.int .i64 i.k, .int .i64 i.p, .string (txt i.v)] 138 (0, 0)) := by
          rw [← hW3]; simp [World.setCell, Array.getElem?_modify, HR2.out]
        have hk3 : ∀ r, r ≠ w.heap.size → W3.heap[r]? = W2.heap[r]? := by
          intro r hr
          rw [← hW3, Below.heap_setCell _ _ _ _ (by exact hr), Below.heap_setCell _ _ _ _ (by exact hr), Below.heap_setCell _ _ _ _ (by exact hr)]
        have p0 : W3.cell? ⟨w.heap.size, 0, none⟩ = some (.int .i64 i.k) := by simp [World.cell?, hres3]
        have p1 : W3.cell? ⟨w.heap.size, 1, none⟩ = some (.int .i64 i.p) := by simp [World.cell?, hres3]
        have p2 : W3.cell? ⟨w.heap.size, 2, none⟩ = some (.string (txt i.v)) := by simp [World.cell?, hres3]
        have hm := HM.out
        have HL3 : Hid (Lq B b gi its W3) := HL2.out.keep (hk3 _ (by omega)) (hk3 _ (by omega))
        have HB3 : Hid (Below B w W3) := by
          have h2 := ((HB2.out.setCell (p := ⟨w.heap.size, 0, none⟩) hB (.int .i64 i.k)).setCell (p := ⟨w.heap.size, 1, none⟩) hB (.int .i64 i.p)).setCell (p := ⟨w.heap.size, 2, none⟩) hB (.string (txt i.v))
          rw [← hW3]; exact h2
        have HK3 : Hid (∀ r, r < w.heap.size → r ≠ b → W3.heap[r]? = w.heap[r]?) := by
          show ∀ _, _
          intro r hr hne
          rw [hk3 r (by omega), HK2.out r hr hne]
        clear hW3 hres3 hk3
        simp [bodyPost, results, Tryz.results89, go_sem, p0, p1, p2, hm]
        exact ⟨HL3.out, HB3.out, HK3.out⟩
      · have hkk : ((i.k : Int) == (k : Int)) = false := by simp; omega
        go_wp2
        go_roundg gk
        case rel =>
          refine ⟨j + 1, by go_num, by omega, by omega, ?_, rfl⟩
          show ∀ _ _, _
          intro x hx
          rw [HTK.out] at hx
          rcases List.mem_append.1 hx with hx | hx
          · exact HX.out x hx
          · simp at hx; subst hx; exact fun e => hk e.symm
        case measure => omega
    · have HNM : Hid (¬ i.k ∈ E) := by
        show ¬ _
        intro hm
        have := HX.out i.k (by rw [List.take_of_length_le (by omega)]; exact hm)
        exact this rfl
      go_wp2_with fail
      refine (unexpected_any pb _).mono ?_
      rintro e w3 ⟨⟨a, rfl⟩, hb3⟩
      have hs2 := HB2.out.size
      have HF3 : Hid (∀ r, r < w.heap.size → ¬ r = b → w3.heap[r]? = w.heap[r]?) := by
        show ∀ _, _
        intro r hr hne
        rw [hb3.block r (by omega), HK2.out r hr hne]
      have HL3 : Hid (Lq B b gi its w3) := by
        obtain ⟨l1, l2, _⟩ := HL2.out.lt
        exact HL2.out.keep (hb3.block _ l1) (hb3.block _ l2)
      have HB3 : Hid (Below B w w3) := HB2.out.trans (hb3.mono (by omega))
      clear hb3
      go_wp2
      simp only [bodyPost]
      exact ⟨trivial, HL3.out, HB3.out, HF3.out, ⟨_, rfl⟩⟩
end Go.Proofs.YtdfhidnhkeapbaaGreatDoor
