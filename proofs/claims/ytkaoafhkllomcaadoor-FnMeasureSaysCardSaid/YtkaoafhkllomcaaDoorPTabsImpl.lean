/- ExpandTabs at the seat of patterns: its panic is caught; at any bytes it returns. -/
import Derived.Recover
import Derived.Test.YtkaoafhkllomcaaDoorPTabs
import Derived.Test.YtkaoafhkllomcaaDoorScrubPlain
namespace Go.Proofs.YtkaoafhkllomcaaDoor
open Go.RowKit U8
open Go.Lib hiding intOf

open Go.Lib hiding intOf

theorem tabs_idle (p q : Addr) (w : World) :
    CallsD Tryd.prog 53 #[.pointer (some p), .pointer (some q)] .returning w fun e u' w' => e = .returned (.tuple #[]) ∧ u' = .returning ∧ w' = w := by
  refine callsD_of_wpS Tryd.func53 rfl fun c₀ cs hu => ?_
  apply wpS_seq
  apply wpS_region
  simp [wpOpsS, go_sem, recoverD, hu, Tryd.ntmps53, Exit.thenS]
  refine wpS_cond (t := false) (by simp [Act.eval, Array.replicate]) ?_
  simp only [Bool.false_eq_true, if_false]
  refine wpS_of_wp (wp_skip ?_)
  cases c₀
  simp_all [bodyPostS, results, Tryd.results53]
theorem implTabs_of (s r : ByteArray) (i : Int) (w : World)
    (h : ∀ W : World, Below w.heap.size w W → Calls Tryd.prog 54 #[.string s, .int .i64 i] W fun e w' => e = .returned (.string r) ∧ Below W.heap.size W w') :
    Calls Tryd.prog 17 #[.string s, .int .i64 i] w fun e w' => e = .returned (.tuple #[.string r, .bool true]) ∧ Below w.heap.size w w' := by
  have hmf : ∀ (fn : Fn) (first cap : Array Value) (w : World), (Instr.makeFunc fn first cap).run Tryd.prog w = .ok (.func fn first cap) w := fun _ _ _ _ => rfl
  have HH := Lib.hid h
  clear h
  go_enter_defers Tryd.func17, Tryd.ntmps17
  go_wp2_with fail
  refine (HH.out _ (((Below.refl _ _).alloc (Nat.le_refl _) _).alloc (by simp) _)).mono ?_
  rintro e W1 ⟨rfl, hb1⟩
  have hz := hb1.size
  simp only [World.size_alloc] at hz
  have hbw : Below w.heap.size w W1 := (((Below.refl _ _).alloc (Nat.le_refl _) _).alloc (by simp) _).trans (hb1.mono (by simp; omega))
  have c0 : W1.cell? ⟨w.heap.size, 0, none⟩ = some (.string ⟨#[]⟩) := by
    rw [hb1.cell (by simp; omega)]; simp [go_sem]
  have c1 : W1.cell? ⟨w.heap.size + 1, 0, none⟩ = some (.bool false) := by
    rw [hb1.cell (by simp)]; simp [go_sem]
  have f0 : W1.frozen? ⟨w.heap.size, 0, none⟩ = false := by
    rw [hb1.frozen (by simp; omega)]; simp [go_sem]
  have f1 : W1.frozen? ⟨w.heap.size + 1, 0, none⟩ = false := by
    rw [hb1.frozen (by simp)]; simp [go_sem]
  clear hb1
  go_wp2
  refine leaves_cons (f := 53) (args := #[.pointer (some ⟨w.heap.size, 0, none⟩), .pointer (some ⟨w.heap.size + 1, 0, none⟩)]) (by simp) (by simp [go_sem]) ?_
  refine (tabs_idle ⟨w.heap.size, 0, none⟩ ⟨w.heap.size + 1, 0, none⟩ _).mono ?_
  rintro e u' w'' ⟨rfl, rfl, rfl⟩
  have d0 : ((W1.setCell ⟨w.heap.size, 0, none⟩ (.string r)).setCell ⟨w.heap.size + 1, 0, none⟩ (.bool true)).cell? ⟨w.heap.size, 0, none⟩ = some (.string r) := by
    rw [World.cell?_setCell_other _ _ _ _ (by simp)]
    exact World.cell?_setCell_same _ _ _ c0
  have d1 : ((W1.setCell ⟨w.heap.size, 0, none⟩ (.string r)).setCell ⟨w.heap.size + 1, 0, none⟩ (.bool true)).cell? ⟨w.heap.size + 1, 0, none⟩ = some (.bool true) := by
    have h1 : (W1.setCell ⟨w.heap.size, 0, none⟩ (.string r)).cell? ⟨w.heap.size + 1, 0, none⟩ = some (.bool false) := by
      rw [World.cell?_setCell_other _ _ _ _ (by simp)]
      exact c1
    exact World.cell?_setCell_same _ _ _ h1
  have hfin : Below w.heap.size w ((W1.setCell ⟨w.heap.size, 0, none⟩ (.string r)).setCell ⟨w.heap.size + 1, 0, none⟩ (.bool true)) :=
    (hbw.setCell (p := ⟨w.heap.size, 0, none⟩) (Nat.le_refl _) _).setCell (p := ⟨w.heap.size + 1, 0, none⟩) (Nat.le_succ _) _
  simp [Leaves, settle, results, Tryd.results17, go_sem, d0, d1]
  exact hfin
theorem tabs_panics (s : ByteArray) (z : Int) (w : World) (hz : z ≤ 0) :
    Calls Tryd.prog 54 #[.string s, .int .i64 z] w fun e w' => (∃ u pv, e = .panicked [{ v := .iface u pv, recovered := false }]) ∧ w' = w := by
  go_enter Tryd.func54, Tryd.ntmps54
  go_wp2
  simp [bodyPost]
theorem tabs_caught (p q : Addr) (u : TypeId) (pv a b : Value) (older : List PanicEntry) (w : World) (hc : w.cell? p = some a) (hz : w.frozen? p = false) (hc2 : w.cell? q = some b) (hz2 : w.frozen? q = false) (hpq : p ≠ q) :
    CallsD Tryd.prog 53 #[.pointer (some p), .pointer (some q)] (.panicking ({ v := .iface u pv, recovered := false } :: older)) w fun e u' w' =>
      e = .returned (.tuple #[]) ∧ u' = .panicking ({ v := .iface u pv, recovered := true } :: older) ∧ w' = (w.setCell p (.string ⟨#[]⟩)).setCell q (.bool false) := by
  refine callsD_of_wpS Tryd.func53 rfl fun c₀ cs hu => ?_
  apply wpS_seq
  apply wpS_region
  simp [wpOpsS, go_sem, recoverD, hu, Tryd.ntmps53, Exit.thenS]
  refine wpS_cond (t := true) (by simp [Act.eval, Array.replicate]) ?_
  simp only [if_true]
  apply wpS_region
  have e1 : (w.setCell p (.string ⟨#[]⟩)).cell? q = some b := by
    rw [World.cell?_setCell_other _ _ _ _ hpq]; exact hc2
  have e2 : (w.setCell p (.string ⟨#[]⟩)).frozen? q = false := by
    rw [World.frozen?_setCell]; exact hz2
  simp [wpOpsS, go_sem, hc, hz, e1, e2, bodyPostS, results, Tryd.results53]
theorem implTabs_no (s : ByteArray) (i : Int) (w : World) (hi : i ≤ 0) :
    Calls Tryd.prog 17 #[.string s, .int .i64 i] w fun e w' => e = .returned (.tuple #[.string ⟨#[]⟩, .bool false]) ∧ Below w.heap.size w w' := by
  have hmf : ∀ (fn : Fn) (first cap : Array Value) (w : World), (Instr.makeFunc fn first cap).run Tryd.prog w = .ok (.func fn first cap) w := fun _ _ _ _ => rfl
  go_enter_defers Tryd.func17, Tryd.ntmps17
  go_wp2_with fail
  refine (tabs_panics s i _ hi).mono ?_
  rintro e W1 ⟨⟨u, pv, rfl⟩, rfl⟩
  go_wp2
  refine leaves_cons (f := 53) (args := #[.pointer (some ⟨w.heap.size, 0, none⟩), .pointer (some ⟨w.heap.size + 1, 0, none⟩)]) (by simp) (by simp [go_sem]) ?_
  have hfin := ((Below.refl w.heap.size w).alloc (Nat.le_refl _) (.cells #[.string ⟨#[]⟩] 9)).alloc (by simp) (.cells #[.bool false] 4)
  refine (tabs_caught ⟨w.heap.size, 0, none⟩ ⟨w.heap.size + 1, 0, none⟩ u pv (.string ⟨#[]⟩) (.bool false) [] _ ?_ ?_ ?_ ?_ (by simp)).mono ?_
  · simp [go_sem]
  · simp [go_sem]
  · simp [go_sem]
  · simp [go_sem]
  rintro e u' w'' ⟨rfl, rfl, rfl⟩
  simp [Leaves, settle, results, Tryd.results17, go_sem]
  exact hfin
theorem implTabs_yes (rs : List Nat) (z : Nat) (w : World) (hs : Scs rs) (hl : (enc rs).length ≤ 500) (hz : 1 ≤ z) (hz2 : z ≤ 100) (hT : Tabs w) :
    Calls Tryd.prog 17 #[.string (txt (enc rs)), .int .i64 z] w fun e w' => e = .returned (.tuple #[.string (txt (enc (tb z 0 rs))), .bool true]) ∧ Below w.heap.size w w' :=
  implTabs_of _ _ _ w fun W hb => tabs_any rs z W hs hl hz hz2 (hT.below hb)
set_option maxHeartbeats 3200000 in
set_option maxRecDepth 100000 in
theorem tabs_ret (l : List UInt8) (z : Nat) (w : World) (hl : l.length ≤ 500) (hz : 1 ≤ z) (hz2 : z ≤ 100) (hT : Tabs w) :
    Calls Tryd.prog 54 #[.string (txt l), .int .i64 z] w fun e w' => ∃ r, e = .returned (.string r) ∧ Below w.heap.size w w' := by
  have hsz500 : (txt l).size ≤ 500 := by rw [txt_size]; exact hl
  go_enter Tryd.func54, Tryd.ntmps54
  go_wp2
  rw [show decide (z = 0) = false by simp; omega]
  go_loopg [0, 8, 10] (l.length + 1) (fun gk s col out wr => ∃ (p rest : List UInt8) (c : Nat), Hid (l = p ++ rest) ∧ s = .string (txt rest) ∧ col = .int .i64 c ∧ rest.length < gk ∧ c ≤ 100 * p.length ∧ p.length + rest.length ≤ 500 ∧ Below w.heap.size w wr ∧
    (out = .pointer none ∨ (∃ b o, out = .pointer (some ⟨b, 0, none⟩) ∧ Hid (Bld w.heap.size b o wr) ∧ o.length ≤ 500 * p.length)))
  case atStart => exact ⟨[], l, 0, rfl, rfl, rfl, by omega, by simp, by simpa using hl, Below.refl _ _, .inl rfl⟩
  case round =>
    obtain ⟨p, rest, c, HR, rfl, rfl, hg, hcl, hpr, hb, hst⟩ := hrel
    have hbs := hb.size
    by_cases hne : rest = []
    · subst hne
      have h0 : (txt ([] : List UInt8)).size ≤ 0 := Nat.le_refl _
      rcases hst with rfl | ⟨b, o, rfl, hbl, hol⟩
      · go_wp2
        go_ret
        exact ⟨_, rfl, hb⟩
      · go_wp2_with fail
        refine (bld_string w.heap.size b _ _ hbl.out hbs).mono ?_
        rintro e w1 ⟨rfl, _, hb1, _⟩
        go_wp2
        go_ret
        exact ⟨_, rfl, hb.trans hb1⟩
    · obtain ⟨a, rest, r, rfl, ha, hd, hr, hea⟩ := first_part rest hne
      clear hea
      have hri := hr.i32
      have hsz := size_pos a rest ha
      have hple := part_le a rest
      have hskip := txt_skip a rest
      have htake := txt_take a rest
      have hal : 1 ≤ a.length := List.length_pos_iff.2 ha
      rw [List.length_append] at hg hpr
      have cD := Lib.hid (dec_list a rest r wr ha hd (hT.below hb))
      have HR2 : Hid (l = (p ++ a) ++ rest) := by show _ = _; rw [HR.out, List.append_assoc]
      obtain ⟨g0, rfl⟩ : ∃ m, gk = m + 1 := ⟨gk - 1, by omega⟩
      clear hne hd ha
      by_cases h9 : r = 9
      · subst h9
        obtain ⟨m, hm⟩ : ∃ m, c % z = m := ⟨_, rfl⟩
        have hmz : m < z := by rw [← hm]; exact Nat.mod_lt _ (by omega)
        have hri2 : (c : Int) % (z : Int) = (m : Int) := by rw [← hm]; rfl
        obtain ⟨e, he⟩ : ∃ e, z - m = e := ⟨_, rfl⟩
        have hzi : (z : Int) - (m : Int) = (e : Int) := by omega
        have he100 : e ≤ 100 := by omega
        have he1 : 1 ≤ e := by omega
        clear hm he
        rcases hst with rfl | ⟨b, o, rfl, hbl, hol⟩
        · have cA := Lib.hid fun W (h : w.heap.size ≤ W.heap.size) => (show p ++ (a ++ rest) = l from HR.out.symm) ▸ alloc_bytes w.heap.size p (a ++ rest) W (by rw [← HR.out]; omega) h
          go_wp2_with (first
            | (go_at_call 56; refine cD.out.mono ?_; rintro e w1 ⟨rfl, hb1⟩)
            | (go_at_call 79; refine (cA.out _ (Nat.le_trans hbs hb1.size)).mono ?_; rintro e w2 ⟨b, rfl, hbl2, hb2⟩))
          have hc1 := hb.trans (hb1.mono hbs)
          have hc2 := hc1.trans hb2
          try rw [hri2]
          clear hri2
          go_loopg [6] (e + 1) (fun gk i wr2 => ∃ (k : Nat) (o2 : List UInt8), k ≤ e ∧ i = .int .i64 k ∧ e - k < gk ∧ o2.length ≤ p.length + 4 * k ∧ Hid (Bld w.heap.size b o2 wr2) ∧ Below w.heap.size w wr2)
          case atStart => exact ⟨0, _, by omega, rfl, by omega, by simp, hbl2, hc2⟩
          case round =>
            obtain ⟨k, o2, hk, rfl, hg2, hol2, hblk, hbk⟩ := hrel
            clear hbl2 cA
            by_cases hke : k < e
            · obtain ⟨gk, rfl⟩ : ∃ m, gk = m + 1 := ⟨gk - 1, by omega⟩
              go_wp2_with (go_at_call 80; refine (bld_rune w.heap.size b _ 32 _ hblk.out (by unfold Sc; omega) (by omega) hbk.size).mono ?_; rintro e w2 ⟨rfl, hbl2, hb2, _⟩)
              go_roundg gk
              case rel => exact ⟨k + 1, _, by omega, by go_num, by omega, by rw [List.length_append]; have := enc1_le 32; omega, hbl2, hbk.trans hb2⟩
              case measure => omega
            · obtain rfl : k = e := by omega
              go_wp2
              go_roundg g0
              case rel => exact ⟨p ++ a, rest, c + k, HR2.out, rfl, by go_num, by omega, by rw [List.length_append]; omega, by rw [List.length_append]; omega, hbk, .inr ⟨b, o2, rfl, hblk, by rw [List.length_append]; omega⟩⟩
              case measure => omega
        · have hbl3 : ∀ W, Below wr.heap.size wr W → Bld w.heap.size b o W := fun W hb => hbl.out.below hb
          go_wp2_with (go_at_call 56; refine cD.out.mono ?_; rintro e w1 ⟨rfl, hb1⟩)
          have hc1 := hb.trans (hb1.mono hbs)
          try rw [hri2]
          clear hri2
          go_loopg [6] (e + 1) (fun gk i wr2 => ∃ (k : Nat) (o2 : List UInt8), k ≤ e ∧ i = .int .i64 k ∧ e - k < gk ∧ o2.length ≤ o.length + 4 * k ∧ Hid (Bld w.heap.size b o2 wr2) ∧ Below w.heap.size w wr2)
          case atStart => exact ⟨0, _, by omega, rfl, by omega, by simp, hbl3 _ hb1, hc1⟩
          case round =>
            obtain ⟨k, o2, hk, rfl, hg2, hol2, hblk, hbk⟩ := hrel
            clear hbl3
            by_cases hke : k < e
            · obtain ⟨gk, rfl⟩ : ∃ m, gk = m + 1 := ⟨gk - 1, by omega⟩
              go_wp2_with (go_at_call 80; refine (bld_rune w.heap.size b _ 32 _ hblk.out (by unfold Sc; omega) (by omega) hbk.size).mono ?_; rintro e w2 ⟨rfl, hbl2, hb2, _⟩)
              go_roundg gk
              case rel => exact ⟨k + 1, _, by omega, by go_num, by omega, by rw [List.length_append]; have := enc1_le 32; omega, hbl2, hbk.trans hb2⟩
              case measure => omega
            · obtain rfl : k = e := by omega
              go_wp2
              go_roundg g0
              case rel => exact ⟨p ++ a, rest, c + k, HR2.out, rfl, by go_num, by omega, by rw [List.length_append]; omega, by rw [List.length_append]; omega, hbk, .inr ⟨b, o2, rfl, hblk, by rw [List.length_append]; omega⟩⟩
              case measure => omega
      · have h9i : ((r : Int) == 9) = false := by simp; omega
        by_cases h10 : r = 10
        · subst h10
          rcases hst with rfl | ⟨b, o, rfl, hbl, hol⟩
          · go_wp2_with (go_at_call 56; refine cD.out.mono ?_; rintro e w1 ⟨rfl, hb1⟩)
            go_roundg g0
            case rel => exact ⟨p ++ a, rest, 0, HR2.out, rfl, by go_num, by omega, by omega, by rw [List.length_append]; omega, hb.trans (hb1.mono hbs), .inl rfl⟩
            case measure => omega
          · go_wp2_with (first
              | (go_at_call 56; refine cD.out.mono ?_; rintro e w1 ⟨rfl, hb1⟩)
              | (go_at_call 81; refine (bld_write w.heap.size b _ a _ (hbl.out.below hb1) (by omega) (Nat.le_trans hbs hb1.size)).mono ?_; rintro e w2 ⟨rfl, hbl2, hb2, _⟩))
            go_roundg g0
            case rel => exact ⟨p ++ a, rest, 0, HR2.out, rfl, by go_num, by omega, by omega, by rw [List.length_append]; omega, (hb.trans (hb1.mono hbs)).trans hb2, .inr ⟨b, _, rfl, hbl2, by rw [List.length_append, List.length_append]; omega⟩⟩
            case measure => omega
        · have h10i : ((r : Int) == 10) = false := by simp; omega
          have hwi := widN_int r
          have hwb := widN_le r
          have cW := Lib.hid fun W => hwi ▸ runeWidth_any r W hri.1 hri.2
          clear hwi
          generalize widN r = n at *
          rcases hst with rfl | ⟨b, o, rfl, hbl, hol⟩
          · go_wp2_with (first
              | (go_at_call 56; refine cD.out.mono ?_; rintro e w1 ⟨rfl, hb1⟩)
              | (go_at_call 78; refine (cW.out _).mono ?_; rintro e w2 ⟨rfl, rfl⟩))
            go_roundg g0
            case rel => exact ⟨p ++ a, rest, c + n, HR2.out, rfl, by go_num, by omega, by rw [List.length_append]; omega, by rw [List.length_append]; omega, hb.trans (hb1.mono hbs), .inl rfl⟩
            case measure => omega
          · go_wp2_with (first
              | (go_at_call 56; refine cD.out.mono ?_; rintro e w1 ⟨rfl, hb1⟩)
              | (go_at_call 78; refine (cW.out _).mono ?_; rintro e w2 ⟨rfl, rfl⟩)
              | (go_at_call 81; refine (bld_write w.heap.size b _ a _ (hbl.out.below hb1) (by omega) (Nat.le_trans hbs hb1.size)).mono ?_; rintro e w3 ⟨rfl, hbl3, hb3, _⟩))
            go_roundg g0
            case rel => exact ⟨p ++ a, rest, c + n, HR2.out, rfl, by go_num, by omega, by rw [List.length_append]; omega, by rw [List.length_append]; omega, (hb.trans (hb1.mono hbs)).trans hb3, .inr ⟨b, _, rfl, hbl3, by rw [List.length_append, List.length_append]; omega⟩⟩
            case measure => omega

end Go.Proofs.YtkaoafhkllomcaaDoor
