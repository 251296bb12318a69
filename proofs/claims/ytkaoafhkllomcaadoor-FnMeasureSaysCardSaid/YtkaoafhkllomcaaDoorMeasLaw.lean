/- The law FnMeasureSays: its walk. -/
import Derived.Test.YtkaoafhkllomcaaDoorPSTabs
namespace Go.Proofs.YtkaoafhkllomcaaDoor
open Go.RowKit U8
open Go.Lib hiding intOf

theorem ptold_not (a b : ByteArray) (k : Int) (w : World) (hk : k ≠ 1) (h0 : 0 ≤ k) (h2 : k ≤ 2) :
    Calls Tryd.prog 18 #[.string a, .string b, .int .i64 k] w fun e w' => e = .returned (.bool true) ∧ w' = w := by
  have h : k = 0 ∨ k = 2 := by omega
  rcases h with rfl | rfl <;>
  · go_enter Tryd.func18, Tryd.ntmps18
    go_wp2
    go_ret
    exact ⟨rfl, rfl⟩
theorem ptold_yes (a : ByteArray) (w : World) :
    Calls Tryd.prog 18 #[.string a, .string a, .int .i64 1] w fun e w' => e = .returned (.bool true) ∧ w' = w := by
  go_enter Tryd.func18, Tryd.ntmps18
  go_wp2
  go_ret
  exact ⟨ret_bool (by simp), rfl⟩
theorem implTabs_some (s : ByteArray) (i : Int) (w : World)
    (h : ∀ W : World, Below w.heap.size w W → Calls Tryd.prog 54 #[.string s, .int .i64 i] W fun e w' => ∃ r, e = .returned (.string r) ∧ Below W.heap.size W w') :
    Calls Tryd.prog 17 #[.string s, .int .i64 i] w fun e w' => ∃ r, e = .returned (.tuple #[.string r, .bool true]) ∧ Below w.heap.size w w' := by
  have hmf : ∀ (fn : Fn) (first cap : Array Value) (w : World), (Instr.makeFunc fn first cap).run Tryd.prog w = .ok (.func fn first cap) w := fun _ _ _ _ => rfl
  have HH := Lib.hid h
  clear h
  go_enter_defers Tryd.func17, Tryd.ntmps17
  go_wp2_with fail
  refine (HH.out _ (((Below.refl _ _).alloc (Nat.le_refl _) _).alloc (by simp) _)).mono ?_
  rintro e W1 ⟨r, rfl, hb1⟩
  have hz := hb1.size
  simp only [World.size_alloc] at hz
  have hbw : Below w.heap.size w W1 := (((Below.refl _ _).alloc (Nat.le_refl _) _).alloc (by simp) _).trans (hb1.mono (by simp; omega))
  have c0 : W1.cell? ⟨w.heap.size, 0, none⟩ = some (.string ⟨#[]⟩) := by
    rw [hb1.cell (by simp; omega)]; simp [go_sem]
  have c1 : W1.cell? ⟨w.heap.size + 1, 0, none⟩ = some (.bool false) := by
    rw [hb1.cell (by simp)]; simp [go_sem]
  have f0 : W1.frozen? ⟨w.heap.size, 0, none⟩ = false := by
    rw [hb1.frozen (by simp; omega)]; simp [go_sem]
  have f1 : W1.frozen? ⟨w.heap.size + 1, 0, none⟩ = false := by
    rw [hb1.frozen (by simp)]; simp [go_sem]
  clear hb1
  go_wp2
  refine leaves_cons (f := 53) (args := #[.pointer (some ⟨w.heap.size, 0, none⟩), .pointer (some ⟨w.heap.size + 1, 0, none⟩)]) (by simp) (by simp [go_sem]) ?_
  refine (tabs_idle ⟨w.heap.size, 0, none⟩ ⟨w.heap.size + 1, 0, none⟩ _).mono ?_
  rintro e u' w'' ⟨rfl, rfl, rfl⟩
  have d0 : ((W1.setCell ⟨w.heap.size, 0, none⟩ (.string r)).setCell ⟨w.heap.size + 1, 0, none⟩ (.bool true)).cell? ⟨w.heap.size, 0, none⟩ = some (.string r) := by
    rw [World.cell?_setCell_other _ _ _ _ (by simp)]
    exact World.cell?_setCell_same _ _ _ c0
  have d1 : ((W1.setCell ⟨w.heap.size, 0, none⟩ (.string r)).setCell ⟨w.heap.size + 1, 0, none⟩ (.bool true)).cell? ⟨w.heap.size + 1, 0, none⟩ = some (.bool true) := by
    have h1 : (W1.setCell ⟨w.heap.size, 0, none⟩ (.string r)).cell? ⟨w.heap.size + 1, 0, none⟩ = some (.bool false) := by
      rw [World.cell?_setCell_other _ _ _ _ (by simp)]
      exact c1
    exact World.cell?_setCell_same _ _ _ h1
  have hfin : Below w.heap.size w ((W1.setCell ⟨w.heap.size, 0, none⟩ (.string r)).setCell ⟨w.heap.size + 1, 0, none⟩ (.bool true)) :=
    (hbw.setCell (p := ⟨w.heap.size, 0, none⟩) (Nat.le_refl _) _).setCell (p := ⟨w.heap.size + 1, 0, none⟩) (Nat.le_succ _) _
  simp [Leaves, settle, results, Tryd.results17, go_sem, d0, d1]
  exact hfin

theorem implTabs_ret (l : List UInt8) (z : Nat) (w : World) (hl : l.length ≤ 500) (hz : 1 ≤ z) (hz2 : z ≤ 100) (hT : Tabs w) :
    Calls Tryd.prog 17 #[.string (txt l), .int .i64 z] w fun e w' => ∃ r, e = .returned (.tuple #[.string r, .bool true]) ∧ Below w.heap.size w w' :=
  implTabs_some _ _ w fun W hb => tabs_ret l z W hl hz hz2 (hT.below hb)

set_option maxHeartbeats 3200000 in
set_option maxRecDepth 100000 in
theorem meas_core (l q : List UInt8) (z : Int) (n x y : Int) (t : ByteArray) (ok : Bool) (w : World) (hf : decide (2 + ((txt l).size + (txt q).size) ≤ 400) = true) (hz : z ≤ 100) (hT : Tabs w)
    (cW : ∀ W, Below w.heap.size w W → Calls Tryd.prog 15 #[.string (txt l)] W fun e w' => e = .returned (.tuple #[.int .i64 n, .int .i64 x]) ∧ Below W.heap.size W w')
    (cT : ∀ W, Below w.heap.size w W → Calls Tryd.prog 16 #[.string (txt l), .int .i64 z] W fun e w' => e = .returned (.tuple #[.string t, .int .i64 y]) ∧ Below W.heap.size W w')
    (cU : ∀ W, Below w.heap.size w W → Calls Tryd.prog 17 #[.string (txt l), .int .i64 z] W fun e w' => ∃ u, e = .returned (.tuple #[.string u, .bool ok]) ∧ (y = 1 → u = t) ∧ Below W.heap.size W w')
    (hx : x = 2 ∨ (x = 1 ∧ ∀ W, Below w.heap.size w W → Calls Tryd.prog 13 #[.string (txt l)] W fun e w' => e = .returned (.int .i64 n) ∧ Below W.heap.size W w'))
    (hy : y = 2 ∨ (y = 0 ∧ ok = false) ∨ (y = 1 ∧ ok = true)) :
    Calls Tryd.prog 3 #[.string (txt l), .string (txt q), .int .i64 z] w fun e w' => e = .returned (.bool true) ∧ Below w.heap.size w w' := by
  have hfn := of_decide_eq_true hf
  have hsl := txt_size l
  have hsq := txt_size q
  have hls : (txt l).size ≤ 400 := by omega
  have hqs : (txt q).size ≤ 400 := by omega
  have hll : l.length ≤ 400 := by omega
  have hql : q.length ≤ 400 := by omega
  have cF := Lib.hid fun W => few2 (txt l) (txt q) true W (by omega) (by omega) hf
  obtain ⟨R, hRR⟩ : ∃ R, scr q false l = R := ⟨_, rfl⟩
  have hR : R.length ≤ 10000000 := by
    have h1 := scr_len q l.length false l (Nat.le_refl _)
    have h2 := Nat.mul_le_mul hll (show q.length + 1 ≤ 401 by omega)
    rw [hRR] at h1
    omega
  have cI := Lib.hid fun W (h : Tabs W) => hRR ▸ implScrub_any l q W (by omega) (by omega) (by rw [hRR]; omega) h
  have cS := Lib.hid fun W (h : Tabs W) => hRR ▸ specScrub_any l q W (by rw [hRR]; omega) h
  have CW := Lib.hid cW
  have CT := Lib.hid cT
  have CU := Lib.hid cU
  clear hf hfn hsl hsq hll hql hRR cW cT cU
  have cex : ∀ W, Tabs W → Calls Tryd.prog 13 #[.string ⟨#[228, 184, 173, 97]⟩] W fun e w' => e = .returned (.int .i64 3) ∧ Below W.heap.size W w' := fun W h => implWidth_any [20013, 97] W (by decide) (by decide) h
  have CEX := Lib.hid cex
  clear cex
  rcases hx with rfl | ⟨rfl, hwid⟩
  · rcases hy with rfl | ⟨rfl, rfl⟩ | ⟨rfl, rfl⟩
    · go_enter Tryd.func3, Tryd.ntmps3
      go_wp2_with fail
      refine (CEX.out _ hT).mono ?_
      rintro e w1 ⟨rfl, hb1⟩
      go_wp2_with fail
      refine (cF.out _).mono ?_
      rintro e w2 ⟨rfl, hb2⟩
      have hc2 := chain hb1 hb2
      go_wp2_with fail
      refine (CW.out _ hc2).mono ?_
      rintro e w3 ⟨rfl, hb3⟩
      have hc3 := chain hc2 hb3
      go_wp2_with fail
      refine (CT.out _ hc3).mono ?_
      rintro e w4 ⟨rfl, hb4⟩
      have hc4 := chain hc3 hb4
      go_wp2_with fail
      refine (CU.out _ hc4).mono ?_
      rintro e w5 ⟨u, rfl, hut, hb5⟩
      have hc5 := chain hc4 hb5
      clear hut
      go_wp2_with fail
      refine (ptold_not _ _ _ _ (by decide) (by decide) (by decide)).mono ?_
      rintro e w6 ⟨rfl, hw6⟩
      obtain rfl := hw6.symm
      go_wp2_with fail
      refine (cI.out _ (hT.below hc5)).mono ?_
      rintro e w7 ⟨rfl, hb7⟩
      have hc7 := chain hc5 hb7
      go_wp2_with fail
      refine (cS.out _ (hT.below hc7)).mono ?_
      rintro e w8 ⟨rfl, hb8⟩
      have hc8 := chain hc7 hb8
      go_wp2
      go_ret
      exact ⟨rfl, hc8⟩
    · go_enter Tryd.func3, Tryd.ntmps3
      go_wp2_with fail
      refine (CEX.out _ hT).mono ?_
      rintro e w1 ⟨rfl, hb1⟩
      go_wp2_with fail
      refine (cF.out _).mono ?_
      rintro e w2 ⟨rfl, hb2⟩
      have hc2 := chain hb1 hb2
      go_wp2_with fail
      refine (CW.out _ hc2).mono ?_
      rintro e w3 ⟨rfl, hb3⟩
      have hc3 := chain hc2 hb3
      go_wp2_with fail
      refine (CT.out _ hc3).mono ?_
      rintro e w4 ⟨rfl, hb4⟩
      have hc4 := chain hc3 hb4
      go_wp2_with fail
      refine (CU.out _ hc4).mono ?_
      rintro e w5 ⟨u, rfl, hut, hb5⟩
      have hc5 := chain hc4 hb5
      clear hut
      go_wp2_with fail
      refine (ptold_not _ _ _ _ (by decide) (by decide) (by decide)).mono ?_
      rintro e w6 ⟨rfl, hw6⟩
      obtain rfl := hw6.symm
      go_wp2_with fail
      refine (cI.out _ (hT.below hc5)).mono ?_
      rintro e w7 ⟨rfl, hb7⟩
      have hc7 := chain hc5 hb7
      go_wp2_with fail
      refine (cS.out _ (hT.below hc7)).mono ?_
      rintro e w8 ⟨rfl, hb8⟩
      have hc8 := chain hc7 hb8
      go_wp2
      go_ret
      exact ⟨rfl, hc8⟩
    · go_enter Tryd.func3, Tryd.ntmps3
      go_wp2_with fail
      refine (CEX.out _ hT).mono ?_
      rintro e w1 ⟨rfl, hb1⟩
      go_wp2_with fail
      refine (cF.out _).mono ?_
      rintro e w2 ⟨rfl, hb2⟩
      have hc2 := chain hb1 hb2
      go_wp2_with fail
      refine (CW.out _ hc2).mono ?_
      rintro e w3 ⟨rfl, hb3⟩
      have hc3 := chain hc2 hb3
      go_wp2_with fail
      refine (CT.out _ hc3).mono ?_
      rintro e w4 ⟨rfl, hb4⟩
      have hc4 := chain hc3 hb4
      go_wp2_with fail
      refine (CU.out _ hc4).mono ?_
      rintro e w5 ⟨u, rfl, hut, hb5⟩
      have hc5 := chain hc4 hb5
      have e1 := hut trivial
      subst e1
      clear hut
      go_wp2_with fail
      refine (ptold_yes _ _).mono ?_
      rintro e w6 ⟨rfl, hw6⟩
      obtain rfl := hw6.symm
      go_wp2_with fail
      refine (cI.out _ (hT.below hc5)).mono ?_
      rintro e w7 ⟨rfl, hb7⟩
      have hc7 := chain hc5 hb7
      go_wp2_with fail
      refine (cS.out _ (hT.below hc7)).mono ?_
      rintro e w8 ⟨rfl, hb8⟩
      have hc8 := chain hc7 hb8
      go_wp2
      go_ret
      exact ⟨rfl, hc8⟩
  · have HWID := Lib.hid hwid
    clear hwid
    rcases hy with rfl | ⟨rfl, rfl⟩ | ⟨rfl, rfl⟩
    · go_enter Tryd.func3, Tryd.ntmps3
      go_wp2_with fail
      refine (CEX.out _ hT).mono ?_
      rintro e w1 ⟨rfl, hb1⟩
      go_wp2_with fail
      refine (cF.out _).mono ?_
      rintro e w2 ⟨rfl, hb2⟩
      have hc2 := chain hb1 hb2
      go_wp2_with fail
      refine (CW.out _ hc2).mono ?_
      rintro e w3 ⟨rfl, hb3⟩
      have hc3 := chain hc2 hb3
      go_wp2_with fail
      refine (CT.out _ hc3).mono ?_
      rintro e w4 ⟨rfl, hb4⟩
      have hc4 := chain hc3 hb4
      go_wp2_with fail
      refine (CU.out _ hc4).mono ?_
      rintro e w5 ⟨u, rfl, hut, hb5⟩
      have hc5 := chain hc4 hb5
      clear hut
      go_wp2_with fail
      refine (HWID.out _ hc5).mono ?_
      rintro e w9 ⟨rfl, hb9⟩
      have hc9 := chain hc5 hb9
      go_wp2_with fail
      refine (ptold_not _ _ _ _ (by decide) (by decide) (by decide)).mono ?_
      rintro e w6 ⟨rfl, hw6⟩
      obtain rfl := hw6.symm
      go_wp2_with fail
      refine (cI.out _ (hT.below hc9)).mono ?_
      rintro e w7 ⟨rfl, hb7⟩
      have hc7 := chain hc9 hb7
      go_wp2_with fail
      refine (cS.out _ (hT.below hc7)).mono ?_
      rintro e w8 ⟨rfl, hb8⟩
      have hc8 := chain hc7 hb8
      go_wp2
      go_ret
      exact ⟨rfl, hc8⟩
    · go_enter Tryd.func3, Tryd.ntmps3
      go_wp2_with fail
      refine (CEX.out _ hT).mono ?_
      rintro e w1 ⟨rfl, hb1⟩
      go_wp2_with fail
      refine (cF.out _).mono ?_
      rintro e w2 ⟨rfl, hb2⟩
      have hc2 := chain hb1 hb2
      go_wp2_with fail
      refine (CW.out _ hc2).mono ?_
      rintro e w3 ⟨rfl, hb3⟩
      have hc3 := chain hc2 hb3
      go_wp2_with fail
      refine (CT.out _ hc3).mono ?_
      rintro e w4 ⟨rfl, hb4⟩
      have hc4 := chain hc3 hb4
      go_wp2_with fail
      refine (CU.out _ hc4).mono ?_
      rintro e w5 ⟨u, rfl, hut, hb5⟩
      have hc5 := chain hc4 hb5
      clear hut
      go_wp2_with fail
      refine (HWID.out _ hc5).mono ?_
      rintro e w9 ⟨rfl, hb9⟩
      have hc9 := chain hc5 hb9
      go_wp2_with fail
      refine (ptold_not _ _ _ _ (by decide) (by decide) (by decide)).mono ?_
      rintro e w6 ⟨rfl, hw6⟩
      obtain rfl := hw6.symm
      go_wp2_with fail
      refine (cI.out _ (hT.below hc9)).mono ?_
      rintro e w7 ⟨rfl, hb7⟩
      have hc7 := chain hc9 hb7
      go_wp2_with fail
      refine (cS.out _ (hT.below hc7)).mono ?_
      rintro e w8 ⟨rfl, hb8⟩
      have hc8 := chain hc7 hb8
      go_wp2
      go_ret
      exact ⟨rfl, hc8⟩
    · go_enter Tryd.func3, Tryd.ntmps3
      go_wp2_with fail
      refine (CEX.out _ hT).mono ?_
      rintro e w1 ⟨rfl, hb1⟩
      go_wp2_with fail
      refine (cF.out _).mono ?_
      rintro e w2 ⟨rfl, hb2⟩
      have hc2 := chain hb1 hb2
      go_wp2_with fail
      refine (CW.out _ hc2).mono ?_
      rintro e w3 ⟨rfl, hb3⟩
      have hc3 := chain hc2 hb3
      go_wp2_with fail
      refine (CT.out _ hc3).mono ?_
      rintro e w4 ⟨rfl, hb4⟩
      have hc4 := chain hc3 hb4
      go_wp2_with fail
      refine (CU.out _ hc4).mono ?_
      rintro e w5 ⟨u, rfl, hut, hb5⟩
      have hc5 := chain hc4 hb5
      have e1 := hut trivial
      subst e1
      clear hut
      go_wp2_with fail
      refine (HWID.out _ hc5).mono ?_
      rintro e w9 ⟨rfl, hb9⟩
      have hc9 := chain hc5 hb9
      go_wp2_with fail
      refine (ptold_yes _ _).mono ?_
      rintro e w6 ⟨rfl, hw6⟩
      obtain rfl := hw6.symm
      go_wp2_with fail
      refine (cI.out _ (hT.below hc9)).mono ?_
      rintro e w7 ⟨rfl, hb7⟩
      have hc7 := chain hc9 hb7
      go_wp2_with fail
      refine (cS.out _ (hT.below hc7)).mono ?_
      rintro e w8 ⟨rfl, hb8⟩
      have hc8 := chain hc7 hb8
      go_wp2
      go_ret
      exact ⟨rfl, hc8⟩

/-- What Width answers, both roads. -/
theorem meas_wid (l : List UInt8) (w : World) (hl : l.length ≤ 400) (hT : Tabs w) : ∃ n x : Int,
    (∀ W, Below w.heap.size w W → Calls Tryd.prog 15 #[.string (txt l)] W fun e w' => e = .returned (.tuple #[.int .i64 n, .int .i64 x]) ∧ Below W.heap.size W w') ∧
    (x = 2 ∨ (x = 1 ∧ ∀ W, Below w.heap.size w W → Calls Tryd.prog 13 #[.string (txt l)] W fun e w' => e = .returned (.int .i64 n) ∧ Below W.heap.size W w')) := by
  cases hv : validD (txt l).data.toList with
  | false => exact ⟨0, 2, fun W hb => swidth_bad (txt l) W (by rw [txt_size]; omega) hv (hT.below hb), .inl rfl⟩
  | true =>
    obtain ⟨rs, hs, he⟩ := text_chars hv
    have hle : l = enc rs := by have h := congrArg (fun t : ByteArray => t.data.toList) he; simpa [txt_list] using h
    subst hle
    have hrl := enc_length_ge rs
    cases ha : rs.any opn with
    | true => exact ⟨0, 2, fun W hb => (swidth_any rs W hs (by omega) (hT.below hb)).mono fun e w' h => ⟨h.1 ha, h.2.2⟩, .inl rfl⟩
    | false =>
      refine ⟨((wsum rs : Nat) : Int), 1, fun W hb => (swidth_any rs W hs (by omega) (hT.below hb)).mono fun e w' h => ⟨h.2.1 ha, h.2.2⟩, .inr ⟨rfl, fun W hb => ?_⟩⟩
      rw [wsum_int]
      exact implWidth_any rs W hs (by omega) (hT.below hb)
/-- What ExpandTabs answers, both roads. -/
theorem meas_tabs (l : List UInt8) (z : Int) (w : World) (hl : l.length ≤ 400) (hz : z ≤ 100) (hT : Tabs w) : ∃ (t : ByteArray) (y : Int) (ok : Bool),
    (∀ W, Below w.heap.size w W → Calls Tryd.prog 16 #[.string (txt l), .int .i64 z] W fun e w' => e = .returned (.tuple #[.string t, .int .i64 y]) ∧ Below W.heap.size W w') ∧
    (∀ W, Below w.heap.size w W → Calls Tryd.prog 17 #[.string (txt l), .int .i64 z] W fun e w' => ∃ u, e = .returned (.tuple #[.string u, .bool ok]) ∧ (y = 1 → u = t) ∧ Below W.heap.size W w') ∧
    (y = 2 ∨ (y = 0 ∧ ok = false) ∨ (y = 1 ∧ ok = true)) := by
  by_cases hz0 : z ≤ 0
  · refine ⟨⟨#[]⟩, 0, false, fun W hb => (stabs_no (txt l) z W hz0).mono ?_, fun W hb => (implTabs_no (txt l) z W hz0).mono fun e w' h => ⟨⟨#[]⟩, h.1, fun h => by omega, h.2⟩, .inr (.inl ⟨rfl, rfl⟩)⟩
    rintro e w' ⟨rfl, rfl⟩
    exact ⟨rfl, Below.refl _ _⟩
  obtain ⟨m, rfl⟩ : ∃ m : Nat, z = m := ⟨z.toNat, by omega⟩
  have hm1 : 1 ≤ m := by omega
  have hm2 : m ≤ 100 := by omega
  have hR : ∀ (t : ByteArray) W, Below w.heap.size w W → Calls Tryd.prog 17 #[.string (txt l), .int .i64 m] W fun e w' => ∃ u, e = .returned (.tuple #[.string u, .bool true]) ∧ ((2 : Int) = 1 → u = t) ∧ Below W.heap.size W w' := fun t W hb => (implTabs_ret l m W (by omega) hm1 hm2 (hT.below hb)).mono fun e w' h => by
    obtain ⟨r, h1, h2⟩ := h
    exact ⟨r, h1, fun h => by omega, h2⟩
  cases hv : validD (txt l).data.toList with
  | false => exact ⟨⟨#[]⟩, 2, true, fun W hb => stabs_bad (txt l) m W (by omega) (by rw [txt_size]; omega) hv (hT.below hb), hR _, .inl rfl⟩
  | true =>
    obtain ⟨rs, hs, he⟩ := text_chars hv
    have hle : l = enc rs := by have h := congrArg (fun t : ByteArray => t.data.toList) he; simpa [txt_list] using h
    subst hle
    cases ha : rs.any opn with
    | true => exact ⟨⟨#[]⟩, 2, true, fun W hb => (stabs_any rs m W hs (by omega) hm1 hm2 (hT.below hb)).mono fun e w' h => ⟨h.1 ha, h.2.2⟩, hR _, .inl rfl⟩
    | false =>
      exact ⟨txt (enc (tb m 0 rs)), 1, true, fun W hb => (stabs_any rs m W hs (by omega) hm1 hm2 (hT.below hb)).mono fun e w' h => ⟨h.2.1 ha, h.2.2⟩,
        fun W hb => (implTabs_yes rs m W hs (by omega) hm1 hm2 (hT.below hb)).mono fun e w' h => ⟨_, h.1, fun _ => rfl, h.2⟩, .inr (.inr ⟨rfl, rfl⟩)⟩

set_option maxHeartbeats 3200000 in
set_option maxRecDepth 100000 in
theorem law_measureSays (s q : ByteArray) (z : Int) (w : World) (hsz : s.size ≤ 140737488351232) (hsq : q.size ≤ 140737488351232) (_hz0 : -9223372036854775808 ≤ z) (_hz1 : z ≤ 9223372036854775807) (hT : Tabs w) :
    Calls Tryd.prog 3 #[.string s, .string q, .int .i64 z] w fun e w' => e = .returned (.bool true) ∧ Below w.heap.size w w' := by
  by_cases hbig : 2147483647 < s.size
  · go_enter Tryd.func3, Tryd.ntmps3
    go_wp2
    go_ret
    exact ⟨rfl, Below.refl _ _⟩
  have hle : s.size ≤ 2147483647 := by omega
  by_cases hbig2 : 2147483647 < q.size
  · go_enter Tryd.func3, Tryd.ntmps3
    go_wp2
    go_ret
    exact ⟨rfl, Below.refl _ _⟩
  have hle2 : q.size ≤ 2147483647 := by omega
  clear hbig hsz hbig2 hsq
  have CEX := Lib.hid fun W (h : Tabs W) => implWidth_any [20013, 97] W (by decide) (by decide) h
  have cex : ∀ W, Tabs W → Calls Tryd.prog 13 #[.string ⟨#[228, 184, 173, 97]⟩] W fun e w' => e = .returned (.int .i64 3) ∧ Below W.heap.size W w' := fun W h => CEX.out W h
  clear CEX
  have CEX := Lib.hid cex
  clear cex
  cases hf : decide (2 + (s.size + q.size) ≤ 400) with
  | false =>
    have cF := Lib.hid fun W => few2 s q false W hle hle2 hf
    clear hf
    go_enter Tryd.func3, Tryd.ntmps3
    go_wp2_with fail
    refine (CEX.out _ hT).mono ?_
    rintro e w1 ⟨rfl, hb1⟩
    go_wp2_with fail
    refine (cF.out _).mono ?_
    rintro e w2 ⟨rfl, hb2⟩
    have hc2 := chain hb1 hb2
    go_wp2
    go_ret
    exact ⟨rfl, hc2⟩
  | true =>
    by_cases hz : 100 < z
    · have cF := Lib.hid fun W => few2 s q true W hle hle2 hf
      clear hf
      go_enter Tryd.func3, Tryd.ntmps3
      go_wp2_with fail
      refine (CEX.out _ hT).mono ?_
      rintro e w1 ⟨rfl, hb1⟩
      go_wp2_with fail
      refine (cF.out _).mono ?_
      rintro e w2 ⟨rfl, hb2⟩
      have hc2 := chain hb1 hb2
      go_wp2
      go_ret
      exact ⟨rfl, hc2⟩
    · obtain ⟨l, rfl⟩ : ∃ l, s = txt l := ⟨s.data.toList, (list_txt s).symm⟩
      obtain ⟨p, rfl⟩ : ∃ l, q = txt l := ⟨q.data.toList, (list_txt q).symm⟩
      have hll : l.length ≤ 400 := by have h := of_decide_eq_true hf; rw [txt_size] at h; omega
      obtain ⟨n, x, h1, h2⟩ := meas_wid l w hll hT
      obtain ⟨t, y, ok, h3, h4, h5⟩ := meas_tabs l z w hll (by omega) hT
      exact meas_core l p z n x y t ok w hf (by omega) hT h1 h3 h4 h2 h5

end Go.Proofs.YtkaoafhkllomcaaDoor
