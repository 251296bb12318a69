/- Words in one of eight styles: laws.styled. -/
import Derived.Test.YthanbbflemkomaaDoorKWalk
import Derived.Deep.AppendLies
namespace Go.Proofs.YthanbbflemkomaaDoor
open Go.RowKit U8
open Go.Lib hiding intOf

set_option maxHeartbeats 3200000 in
set_option maxRecDepth 100000 in
theorem styled_any (l : List (List UInt8)) (v : Value) (k : Nat) (w : World) (hT : Tx w v l) (h0 : 0 < l.length) (hll : l.length ≤ 1000) (hx1 : ∀ x ∈ l, 1 ≤ x.length ∧ x.length ≤ 1000) (hk : k ≤ 255) (hz : szs l ≤ 20000) :
    Calls Tryd.prog 10 #[v, .int .u8 (k : Int)] w fun e w' => e = .returned (.string (txt (styA l (k % 8)))) ∧ Below w.heap.size w w' := by
  have CT := Lib.hid (titled_any l v w hT hll hx1)
  have CJ (c : UInt8) : Calls Tryd.prog 34 #[v, .string ⟨#[c]⟩] w fun e w' => e = .returned (.string (txt (joinA [c] l))) ∧ w' = w := joined_any l [c] v w hT (by omega) (by simp)
  have HJ := Lib.hid CJ
  have h95 := joinA_len [95] (by simp) l
  have h45 := joinA_len [45] (by simp) l
  have CU5 := Lib.hid (upper_any (joinA [95] l) w (by omega))
  have CU2 := Lib.hid (upper_any (joinA [45] l) w (by omega))
  have hm8 : k % 8 < 8 := by omega
  have hmd : ((k : Int).tmod 8) = ((k % 8 : Nat) : Int) := by rw [Int.tmod_eq_emod_of_nonneg (by omega)]; omega
  have hk8 : (k : Int) % 8 = ((k % 8 : Nat) : Int) := by omega
  obtain ⟨m, hm⟩ : ∃ m, k % 8 = m := ⟨_, rfl⟩
  rw [hm] at hm8 hmd hk8 ⊢
  have hbr := Below.refl w.heap.size w
  have hsl := sty_len l
  clear hm h95 h45 CJ
  match m, hm8 with
  | 0, _ | 2, _ | 4, _ | 5, _ =>
    go_enter Tryd.func10, Tryd.ntmps10
    go_wp2_with fail
    refine (HJ.out _).mono ?_
    rintro e w1 ⟨rfl, rfl⟩
    go_wp2
    go_ret
    exact ⟨rfl, hbr⟩
  | 1, _ =>
    go_enter Tryd.func10, Tryd.ntmps10
    go_wp2_with fail
    refine (HJ.out _).mono ?_
    rintro e w1 ⟨rfl, rfl⟩
    go_wp2_with fail
    refine CU5.out.mono ?_
    rintro e w1 ⟨rfl, hb1⟩
    go_wp2
    go_ret
    exact ⟨rfl, hb1⟩
  | 3, _ =>
    go_enter Tryd.func10, Tryd.ntmps10
    go_wp2_with fail
    refine (HJ.out _).mono ?_
    rintro e w1 ⟨rfl, rfl⟩
    go_wp2_with fail
    refine CU2.out.mono ?_
    rintro e w1 ⟨rfl, hb1⟩
    go_wp2
    go_ret
    exact ⟨rfl, hb1⟩
  | 6, _ =>
    have h6 := joinA_len [] (by simp) (l.map tit)
    go_enter Tryd.func10, Tryd.ntmps10
    go_wp2_with fail
    refine CT.out.mono ?_
    rintro e w1 ⟨ao1, cap1, he, hown, hb1⟩
    generalize Value.slice ao1 (l.map tit).length cap1 = vz at he hown
    subst he
    have hT1 := tx_own hown
    have CJ6 := Lib.hid (show Calls Tryd.prog 34 #[vz, .string ⟨#[]⟩] w1 fun e w' => e = .returned (.string (txt (joinA [] (l.map tit)))) ∧ w' = w1 from joined_any (l.map tit) [] _ w1 hT1 (by rw [szs_tit, List.length_map]; omega) (by simp))
    clear hT1 hown h6
    go_wp2_with fail
    refine CJ6.out.mono ?_
    rintro e w2 ⟨rfl, rfl⟩
    go_wp2
    go_ret
    exact ⟨rfl, hb1⟩
  | 7, _ =>
    match l, h0 with
    | x :: l, _ =>
    obtain ⟨ao, cap, hv, hcp, hx⟩ := hT
    obtain ⟨g, o, rfl, cx⟩ := hx 0 x rfl
    have hT2 : Tx w (.slice (if cap = 1 then some ⟨g, o, none⟩ else some ⟨g, o + 1, none⟩) l.length (cap - 1)) l := by
      rw [List.length_cons] at hcp
      refine ⟨_, cap - 1, rfl, by omega, fun j y hj => ?_⟩
      have hjl := (List.getElem?_eq_some_iff.1 hj).1
      obtain ⟨g2, o2, e2, c2⟩ := hx (j + 1) y (by simpa using hj)
      cases e2
      rw [if_neg (by omega)]
      exact ⟨g, o + 1, rfl, by rw [Nat.add_assoc, Nat.add_comm 1 j]; exact c2⟩
    have CT2 := Lib.hid fun W (hb : Below w.heap.size w W) => titled_any l _ W (hT2.below hb) (by rw [List.length_cons] at hll; omega) (fun y hy => hx1 y (List.mem_cons_of_mem _ hy))
    subst hv
    rw [Nat.add_zero] at cx
    have hl1 : (1 : Int) ≤ (l.length : Int) + 1 := by omega
    have h6 := joinA_len [] (by simp) (l.map tit)
    rw [szs_tit, List.length_map] at h6
    rw [szs_cons] at hz
    rw [List.length_cons] at hll
    have hx9 := (hx1 x (by simp)).2
    have CJ6 := Lib.hid fun vz W (hT : Tx W vz (l.map tit)) => (show Calls Tryd.prog 34 #[vz, .string ⟨#[]⟩] W fun e w' => e = .returned (.string (txt (joinA [] (l.map tit)))) ∧ w' = W from joined_any (l.map tit) [] _ W hT (by rw [szs_tit, List.length_map]; omega) (by simp))
    have hadd : txt x ++ txt (joinA [] (l.map tit)) = txt (styA (x :: l) 7) := txt_append _ _
    have hts := txt_size x
    have htj := txt_size (joinA [] (l.map tit))
    generalize txt (joinA [] (l.map tit)) = J at *
    have hcat : ¬ 9223372036854775807 < (txt x).size + J.size := by omega
    have HADD := Lib.hid hadd
    have HBR := Lib.hid (Below.drew hbr)
    have hlen : (x :: l).length = l.length + 1 := rfl
    clear hx HJ CU5 CU2 CT hT2 hcp hadd h6 hz hsl hts htj hx1
    go_enter Tryd.func10, Tryd.ntmps10
    go_upto_region 16 with fail
    go_region_law (first
      | (go_simp; go_at_call 35; refine (CT2.out _ HBR.out).mono ?_; rintro e w1 ⟨ao1, cap1, he, hown, hb1⟩
         generalize Value.slice ao1 (l.map tit).length cap1 = vz at he hown
         subst he
         have hT1 := Lib.hid (tx_own hown)
         have HB1 := Lib.hid (HBR.out.trans (hb1.mono HBR.out.size))
         have cx2 : w1.cell? ⟨g, o, none⟩ = some (.string (txt x)) := (HB1.out.cell (World.block_lt_of_cell? w _ cx)).trans cx
         clear hown hb1)
      | (go_simp; go_at_call 34; refine (CJ6.out _ _ hT1.out).mono ?_; rintro e w2 ⟨rfl, rfl⟩))
    all_goals
      go_wp2
      all_goals
        go_ret
        exact ⟨ret_str HADD.out, HB1.out⟩
  | _ + 8, h => omega

end Go.Proofs.YthanbbflemkomaaDoor
