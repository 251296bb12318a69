/- ParseWithEnvs and impl.WordsEnvs: their walks. -/
import Derived.Test.YthekblmkcfkboaaDoorWEnv
namespace Go.Proofs.YthekblmkcfkboaaDoor
open Go.RowKit U8
open Go.Lib hiding intOf

def splE (pe : Bool) (l : List (List UInt8)) : List (List UInt8) × List (List UInt8) := if pe then (l.takeWhile envB, l.dropWhile envB) else ([], l)
theorem splE_env {x : List UInt8} {l : List (List UInt8)} (h : envB x = true) : splE true (x :: l) = (x :: (splE true l).1, (splE true l).2) := by simp [splE, h]
theorem splE_no {x : List UInt8} {l : List (List UInt8)} (h : envB x = false) : splE true (x :: l) = ([], x :: (splE false l).2) := by simp [splE, h]
theorem splE_off (x : List UInt8) (l : List (List UInt8)) : splE false (x :: l) = ([], x :: (splE false l).2) := rfl
/-- Two rows of texts of the call's own, apart. -/
structure TR (w2 : World) (ve va : Value) (E A : List (List UInt8)) (wr : World) : Prop where
  b : Below w2.heap.size w2 wr
  e : wr.ownsRow w2.heap.size 9 1 ve E.length (strsV E)
  a : wr.ownsRow w2.heap.size 9 1 va A.length (strsV A)
  sep : ∀ x, ve.ownBlock = some x → va.ownBlock = some x → False
theorem strs_snoc {w : World} {B : Nat} {v : Value} {E : List (List UInt8)} {x : List UInt8} (h : w.ownsRow B 9 1 v (E.length + 1) (strsV E ++ [.string (txt x)])) : w.ownsRow B 9 1 v (E ++ [x]).length (strsV (E ++ [x])) := by
  rw [List.length_append]
  show World.ownsRow _ _ _ _ _ _ (List.map _ _)
  rw [List.map_append]
  exact h
theorem TR.envTo {w2 wr w5 : World} {ve va ve' : Value} {E A : List (List UInt8)} {x : List UInt8} {o : Obj} (h : TR w2 ve va E A wr) (hg : (wr.alloc o).grownBy w5 ve.ownBlock) (hown : w5.ownsRow w2.heap.size 9 1 ve' (E.length + 1) (strsV E ++ [.string (txt x)])) (hmv : Moved (wr.alloc o) ve ve') : TR w2 ve' va (E ++ [x]) A w5 := by
  have hb := h.b.alloc h.b.size o
  refine ⟨hb.grown hg hb.size (fun z hz => (World.ownsRow.lt h.e z hz).1), strs_snoc hown, owns_keep h.a (fun z hz => ?_), fun z h1 h2 => ?_⟩
  · have hzl := (World.ownsRow.lt h.a z hz).2
    rw [hg.block z (by simp; omega) (fun e => h.sep z e.symm hz), alloc_old _ _ _ hzl]
  · have hzl := (World.ownsRow.lt h.a z h2).2
    rcases hmv with e | ⟨y, e, hy⟩
    · rw [e] at h1; exact h.sep z h1 h2
    · rw [e] at h1; cases h1; simp at hy; omega
theorem TR.argTo {w2 wr w5 : World} {ve va va' : Value} {E A : List (List UInt8)} {x : List UInt8} {o : Obj} (h : TR w2 ve va E A wr) (hg : (wr.alloc o).grownBy w5 va.ownBlock) (hown : w5.ownsRow w2.heap.size 9 1 va' (A.length + 1) (strsV A ++ [.string (txt x)])) (hmv : Moved (wr.alloc o) va va') : TR w2 ve va' E (A ++ [x]) w5 := by
  have hb := h.b.alloc h.b.size o
  refine ⟨hb.grown hg hb.size (fun z hz => (World.ownsRow.lt h.a z hz).1), owns_keep h.e (fun z hz => ?_), strs_snoc hown, fun z h1 h2 => ?_⟩
  · have hzl := (World.ownsRow.lt h.e z hz).2
    rw [hg.block z (by simp; omega) (fun e => h.sep z hz e.symm), alloc_old _ _ _ hzl]
  · have hzl := (World.ownsRow.lt h.e z h1).2
    rcases hmv with e | ⟨y, e, hy⟩
    · rw [e] at h2; exact h.sep z h1 h2
    · rw [e] at h2; cases h2; simp at hy; omega
theorem TR.start (w2 : World) : TR w2 (.slice (some ⟨w2.heap.size, 0, none⟩) 0 0) (.slice (some ⟨w2.heap.size + 1, 0, none⟩) 0 0) [] [] ((w2.alloc (.cells #[] 9)).alloc (.cells #[] 9)) := by
  have s1 : (w2.alloc (.cells #[] 9)).heap.size = w2.heap.size + 1 := by simp
  refine ⟨((Below.refl _ _).alloc (Nat.le_refl _) _).alloc (by simp) _, World.ownsRow.alloc (World.ownsRow_made w2 #[] 0 (Nat.le_refl _) (by unfold maxLen; omega) rfl) _, ?_, fun x h1 h2 => ?_⟩
  · have h := World.ownsRow_made (base := w2.heap.size) (e := 9) (size := 1) (w2.alloc (.cells #[] 9)) #[] 0 (by omega) (by unfold maxLen; omega) rfl
    rw [s1] at h
    exact h
  · cases h1
    simp [Value.ownBlock] at h2
set_option maxHeartbeats 3200000 in
theorem pwe_any (cmt : Bool) (ex : List Nat) (l : List UInt8) (pp : Nat) (gv ev : Value) (w : World) (xs : List (List UInt8)) (pos : Int) (hl : l.length ≤ 100000) (hxl : ex.length ≤ 100000) (hpp : pp < w.heap.size)
    (c0 : w.cell? ⟨pp, 0, none⟩ = some (.bool false)) (c1 : w.cell? ⟨pp, 1, none⟩ = some (.bool cmt)) (c2 : ∃ v, w.cell? ⟨pp, 2, none⟩ = some v) (c4 : w.cell? ⟨pp, 4, none⟩ = some gv) (f2 : w.frozen? ⟨pp, 2, none⟩ = false) (hE : Ex pp ex w)
    (hev : w.cell? ⟨0, 0, none⟩ = some ev) (hR : runS cmt ex Sx.start (rns l) = some (xs, pos)) (hxs : xs.length ≤ 200000) (hx1 : ∀ x ∈ xs, x.length ≤ 1000000)
    (w0 : World) (h0 : Below w0.heap.size w0 w) (hBp : w0.heap.size ≤ pp) :
    Calls Tryd.prog 27 #[.pointer (some ⟨pp, 0, none⟩), .string (txt l)] w fun e w' => ∃ ve va, e = .returned (.tuple #[ve, va, .nilIface]) ∧ Below w0.heap.size w0 w' ∧
      w'.ownsRow w0.heap.size 9 1 ve (splE true xs).1.length (strsV (splE true xs).1) ∧ w'.ownsRow w0.heap.size 9 1 va (splE true xs).2.length (strsV (splE true xs).2) := by
  obtain ⟨i0, hi, hz0, hz1, hz2⟩ := info_parts Tryd.infoStr
  have CQ := Lib.hid (parse_any cmt ex l pp gv ev w hl hxl hpp c0 c1 c2 c4 f2 hE hev)
  have HH0 := Lib.hid h0
  have HR := Lib.hid hR
  have HX1 := Lib.hid hx1
  obtain ⟨FE, hFE⟩ : ∃ FE, (splE true xs).1 = FE := ⟨_, rfl⟩
  obtain ⟨FA, hFA⟩ : ∃ FA, (splE true xs).2 = FA := ⟨_, rfl⟩
  rw [hFE, hFA]
  have HFE := Lib.hid hFE.symm
  have HFA := Lib.hid hFA.symm
  clear c0 c1 c2 c4 f2 hE hev hR h0 hx1 hFE hFA
  go_enter Tryd.func27, Tryd.ntmps27
  go_wp2_with fail
  refine CQ.out.mono ?_
  rintro e w2 ⟨_, hS⟩
  obtain ⟨ao, cap, w1, rfl, hb1, rfl, hown⟩ := hS xs pos HR.out
  have hb2 := (HH0.out.trans (hb1.mono HH0.out.size)).setCell (p := ⟨pp, 2, none⟩) hBp (.int .i64 pos)
  have hTx := tx_own hown
  generalize w1.setCell ⟨pp, 2, none⟩ (.int .i64 pos) = w3 at *
  obtain ⟨ao3, cap3, hv3, hcx⟩ := hTx
  have HCX := Lib.hid hcx
  cases hv3
  have HB2 := Lib.hid hb2
  have HST := Lib.hid (TR.start w3)
  clear hS hown hb1 hb2 hcx
  go_wp2_with fail
  go_loopg [4, 5, 8, 10, 24] (xs.length + 1) (fun gk v4 v5 v8 v10 v24 wr => ∃ (k : Nat) (pe : Bool) (E A : List (List UInt8)), v24 = .int .i64 k ∧ v8 = .bool pe ∧ k ≤ xs.length ∧ xs.length - k < gk ∧ E.length ≤ k ∧ A.length ≤ k ∧ Hid (FE = E ++ (splE pe (xs.drop k)).1) ∧ Hid (FA = A ++ (splE pe (xs.drop k)).2) ∧ Hid (TR w3 v4 v5 E A wr))
  case atStart => exact ⟨0, true, [], [], rfl, rfl, by omega, by omega, by simp, by simp, HFE.out, HFA.out, HST.out⟩
  case round =>
    obtain ⟨k, pe, E, A, rfl, rfl, hk, hg, hEl, hAl, HE1, HA1, HT⟩ := hrel
    by_cases hlt : k < xs.length
    · obtain ⟨gk, rfl⟩ : ∃ m, gk = m + 1 := ⟨gk - 1, by omega⟩
      have hx := List.getElem?_eq_getElem hlt
      have hd := List.drop_eq_getElem_cons hlt
      have hxm := HX1.out xs[k] (List.getElem_mem hlt)
      generalize xs[k] = x at hx hd hxm
      obtain ⟨g, o1, hao, cx0⟩ := HCX.out k x hx
      subst hao
      have cx : wr.cell? ⟨g, o1 + k, none⟩ = some (.string (txt x)) := (HT.out.b.cell (World.block_lt_of_cell? w3 _ cx0)).trans cx0
      have he := HE1.out
      have ha := HA1.out
      rw [hd] at he ha
      have hsz := HT.out.b.size
      have CI := Lib.hid (isEnv_any x wr hxm)
      clear hx hd cx0
      have harm : ∀ u ∈ [Value.string (txt x)], u.oneCell' = true := by intro u hu; simp at hu; subst hu; rfl
      cases pe with
      | true =>
        cases hb : envB x with
        | true =>
          rw [splE_env hb] at he ha
          rw [hb] at CI
          have HE2 : Hid (FE = (E ++ [x]) ++ (splE true (xs.drop (k + 1))).1) := by show _ = _; rw [he, List.append_assoc]; rfl
          have HA2 : Hid (FA = A ++ (splE true (xs.drop (k + 1))).2) := ha
          clear he ha hb HE1 HA1
          go_wp2_with fail
          refine CI.out.mono ?_
          rintro e wx ⟨rfl, hwx⟩
          obtain rfl := hwx.symm
          go_wp2_with (at_builtin; refine wpList_append_mv rfl _ _ 22 rfl w3.heap.size 9 i0 (.string ⟨#[]⟩) 16 Tryd.underlying22 hi hz0 hz1 hz2 rfl _ E.length (strsV E) rfl (World.ownsRow.alloc HT.out.e _) ⟨wr.heap.size, 0, none⟩ 1 1 [.string (txt x)] rfl rfl (one_str wr (txt x)) harm (by unfold maxLen; omega) (by omega) (by simp; omega) ?_)
          intro v' w5 ho hgr hmv
          have HT5 := Lib.hid (TR.envTo HT.out hgr ho hmv)
          clear ho hgr hmv
          go_wp2
          go_roundg gk
          case rel => exact ⟨k + 1, true, E ++ [x], A, by go_num, rfl, by omega, by omega, by simp; omega, by omega, HE2.out, HA2.out, HT5.out⟩
          case measure => omega
        | false =>
          rw [splE_no hb] at he ha
          rw [hb] at CI
          have HE2 : Hid (FE = E ++ (splE false (xs.drop (k + 1))).1) := he
          have HA2 : Hid (FA = (A ++ [x]) ++ (splE false (xs.drop (k + 1))).2) := by show _ = _; rw [ha, List.append_assoc]; rfl
          clear he ha hb HE1 HA1
          go_wp2_with fail
          refine CI.out.mono ?_
          rintro e wx ⟨rfl, hwx⟩
          obtain rfl := hwx.symm
          go_wp2_with (at_builtin; refine wpList_append_mv rfl _ _ 22 rfl w3.heap.size 9 i0 (.string ⟨#[]⟩) 16 Tryd.underlying22 hi hz0 hz1 hz2 rfl _ A.length (strsV A) rfl (World.ownsRow.alloc HT.out.a _) ⟨wr.heap.size, 0, none⟩ 1 1 [.string (txt x)] rfl rfl (one_str wr (txt x)) harm (by unfold maxLen; omega) (by omega) (by simp; omega) ?_)
          intro v' w5 ho hgr hmv
          have HT5 := Lib.hid (TR.argTo HT.out hgr ho hmv)
          clear ho hgr hmv
          go_wp2
          go_roundg gk
          case rel => exact ⟨k + 1, false, E, A ++ [x], by go_num, rfl, by omega, by omega, by omega, by simp; omega, HE2.out, HA2.out, HT5.out⟩
          case measure => omega
      | false =>
        rw [splE_off] at he ha
        have HE2 : Hid (FE = E ++ (splE false (xs.drop (k + 1))).1) := he
        have HA2 : Hid (FA = (A ++ [x]) ++ (splE false (xs.drop (k + 1))).2) := by show _ = _; rw [ha, List.append_assoc]; rfl
        clear he ha HE1 HA1 CI
        go_wp2_with (at_builtin; refine wpList_append_mv rfl _ _ 22 rfl w3.heap.size 9 i0 (.string ⟨#[]⟩) 16 Tryd.underlying22 hi hz0 hz1 hz2 rfl _ A.length (strsV A) rfl (World.ownsRow.alloc HT.out.a _) ⟨wr.heap.size, 0, none⟩ 1 1 [.string (txt x)] rfl rfl (one_str wr (txt x)) harm (by unfold maxLen; omega) (by omega) (by simp; omega) ?_)
        intro v' w5 ho hgr hmv
        have HT5 := Lib.hid (TR.argTo HT.out hgr ho hmv)
        clear ho hgr hmv
        go_wp2
        go_roundg gk
        case rel => exact ⟨k + 1, false, E, A ++ [x], by go_num, rfl, by omega, by omega, by omega, by simp; omega, HE2.out, HA2.out, HT5.out⟩
        case measure => omega
    · have hdn : xs.drop k = [] := List.drop_eq_nil_of_le (by omega)
      have he := HE1.out
      have ha := HA1.out
      rw [hdn] at he ha
      have hs0 : splE pe [] = ([], []) := by cases pe <;> rfl
      rw [hs0, List.append_nil] at he ha
      subst he ha
      have HO1 := Lib.hid (owns_base HT.out.e HB2.out.size)
      have HO2 := Lib.hid (owns_base HT.out.a HB2.out.size)
      have HBF := Lib.hid (HB2.out.trans (HT.out.b.mono HB2.out.size))
      clear HE1 HA1 hdn hs0
      go_wp2
      go_ret3
      exact ⟨_, _, rfl, HBF.out, HO1.out, HO2.out⟩
set_option maxHeartbeats 3200000 in
theorem wordsEnvs_any (l : List UInt8) (hl : l.length ≤ 100000) (w : World) (hE : Er w) (xs : List (List UInt8)) (pos : Int) (hR : runS false [] Sx.start (rns l) = some (xs, pos)) (hxs : xs.length ≤ 200000) (hx1 : ∀ x ∈ xs, x.length ≤ 1000000) :
    Calls Tryd.prog 21 #[.string (txt l), shellV false []] w fun e w' => ∃ ve va, e = .returned (.tuple #[ve, va, .bool true]) ∧ Below w.heap.size w w' ∧
      w'.ownsRow w.heap.size 9 1 ve (splE true xs).1.length (strsV (splE true xs).1) ∧ w'.ownsRow w.heap.size 9 1 va (splE true xs).2.length (strsV (splE true xs).2) := by
  have CP := Lib.hid fun W => parser_any false [] (fun _ h => by cases h) (by decide) W
  have HE := Lib.hid hE
  have HR := Lib.hid hR
  have HX1 := Lib.hid hx1
  clear hE hR hx1
  go_enter Tryd.func21, Tryd.ntmps21
  go_wp2_with fail
  refine (CP.out _).mono ?_
  rintro e w1 ⟨pp, gv, rfl, hp0, hp1, hb1, c0, c1, c2, c4, f2, hX⟩
  have hb1' := chain ((Below.refl w.heap.size w).alloc (Nat.le_refl _) _) hb1
  obtain ⟨tp, pv, hev⟩ := HE.out.below hb1'
  simp at hp0
  have CQ := Lib.hid (pwe_any false [] l pp gv (.iface tp pv) w1 xs pos hl (by simp) hp1 c0 c1 ⟨_, c2⟩ c4 f2 hX hev HR.out hxs HX1.out w hb1' (by omega))
  clear c0 c1 c2 c4 f2 hX hev hb1 hb1'
  go_wp2_with fail
  refine CQ.out.mono ?_
  rintro e w2 ⟨ve, va, rfl, hb2, ho1, ho2⟩
  have HB := Lib.hid hb2
  have HO1 := Lib.hid ho1
  have HO2 := Lib.hid ho2
  clear hb2 ho1 ho2
  go_wp2
  go_ret3
  exact ⟨_, _, rfl, HB.out, HO1.out, HO2.out⟩

end Go.Proofs.YthekblmkcfkboaaDoor
