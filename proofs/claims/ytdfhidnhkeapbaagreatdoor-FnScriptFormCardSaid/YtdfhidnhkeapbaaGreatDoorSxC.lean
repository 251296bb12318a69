/- The expansion of one value of a set, by either kind of signs. Condition: expansion's plain form ends. FnScriptForm: its walk. Condition: the texts' sizes. -/
import Derived.Test.YtdfhidnhkeapbaaGreatDoorSxA
import Derived.Test.YtdfhidnhkeapbaaGreatDoorSxB
import Derived.Test.YtdfhidnhkeapbaaGreatDoorLxFullA
import Derived.Test.YtdfhidnhkeapbaaGreatDoorLxHelp
namespace Go.Proofs.YtdfhidnhkeapbaaGreatDoor
open Go.RowKit U8
open Go.Lib hiding intOf

set_option maxHeartbeats 12800000 in
set_option maxRecDepth 100000 in
theorem pexpM (b m : Nat) (kv : KV2) (N : Nat) (hN : N ≤ 1000000) (d : Nat) (key s r : List UInt8) (W : World) (h : PoM [36, 123] [125] b m kv W) (hR : exD kv N d [key] s = some (some r)) :
    ExpsOk b key s r W := by
  suffices HH : Calls Tryz.prog 63 #[.pointer (some ⟨b, 0, none⟩), .string (txt key), .string (txt s)] W (RetP (some r) W) from HH
  obtain ⟨R, hRR⟩ : ∃ R, some r = R := ⟨_, rfl⟩
  rw [hRR] at hR ⊢
  clear hRR
  obtain ⟨⟨c4, c5, c6, ho⟩, hm, hn⟩ := h
  have c0 : W.cell? ⟨b, 0, none⟩ = some (.string ⟨#[36, 123]⟩) := by simp [World.cell?, ho]; rfl
  have c1 : W.cell? ⟨b, 1, none⟩ = some (.string ⟨#[125]⟩) := by simp [World.cell?, ho]; rfl
  have c3 : W.cell? ⟨b, 3, none⟩ = some (.map (some m)) := by simp [World.cell?, ho]
  have hbl := lt_of_some ho
  have hml := hm.lt
  have C : Hid (Calls Tryz.prog 72 #[.string (txt s), .slice (some ⟨W.heap.size, 0, none⟩) 1 1, .string ⟨#[36, 123]⟩, .string ⟨#[125]⟩, .map (some m)] (W.drew.alloc (.cells #[.string (txt key)] 9)) (ExpP W.heap.size (.slice (some ⟨W.heap.size, 0, none⟩) 1 1) 1 [key] R (W.drew.alloc (.cells #[.string (txt key)] 9)))) :=
    expand_any W.heap.size m kv hn N hN d [key] s R _ _ hR (hm.of (al_old W.drew _ _ hml)) (own_one W.drew (txt key)) (by simp) (by simp)
  clear ho hm hn hR
  have C2 : Hid (Calls Tryz.prog 72 #[.string (txt s), .slice (some ⟨W.heap.size, 0, none⟩) 1 1, .string ⟨#[36, 123]⟩, .string ⟨#[125]⟩, .map (some m)] (W.drew.alloc (.cells #[.string (txt key)] 9)) fun e w' => ∃ rs ev, e = .returned (.tuple #[.string rs, ev]) ∧ RetP R W (.returned (.tuple #[.string rs, ev])) w') := by
    refine C.out.mono ?_
    rintro e w' ⟨he, _, hb, _⟩
    have hb2 : Below W.heap.size W w' := ((Below.refl _ W).drew.alloc (Nat.le_refl _) _).trans hb
    cases R with
    | some r => exact ⟨_, _, he, rfl, hb2⟩
    | none =>
      obtain ⟨a, he⟩ := he
      exact ⟨_, _, he, ⟨a, rfl⟩, hb2⟩
  obtain ⟨P, hP⟩ : ∃ P, RetP R W = P := ⟨_, rfl⟩
  rw [hP] at C2 ⊢
  clear C hP hml
  go_enter Tryz.func63, Tryz.ntmps63
  go_upto_region 3 with fail
  go_region_law (go_simp; go_at_call 72; refine C2.out.mono ?_; rintro e w1 ⟨rs, ev, rfl, hb⟩)
  all_goals
    go_wp2
    go_ret2
    exact hb
set_option maxHeartbeats 12800000 in
set_option maxRecDepth 100000 in
theorem pexpM2 (b m : Nat) (kv : KV2) (N : Nat) (hN : N ≤ 1000000) (d : Nat) (key s r : List UInt8) (W : World) (h : PoM [35, 91] [93, 35] b m kv W) (hR : exD2 kv N d [key] s = some (some r)) :
    ExpsOk b key s r W := by
  suffices HH : Calls Tryz.prog 63 #[.pointer (some ⟨b, 0, none⟩), .string (txt key), .string (txt s)] W (RetP (some r) W) from HH
  obtain ⟨R, hRR⟩ : ∃ R, some r = R := ⟨_, rfl⟩
  rw [hRR] at hR ⊢
  clear hRR
  obtain ⟨⟨c4, c5, c6, ho⟩, hm, hn⟩ := h
  have c0 : W.cell? ⟨b, 0, none⟩ = some (.string ⟨#[35, 91]⟩) := by simp [World.cell?, ho]; rfl
  have c1 : W.cell? ⟨b, 1, none⟩ = some (.string ⟨#[93, 35]⟩) := by simp [World.cell?, ho]; rfl
  have c3 : W.cell? ⟨b, 3, none⟩ = some (.map (some m)) := by simp [World.cell?, ho]
  have hbl := lt_of_some ho
  have hml := hm.lt
  have C : Hid (Calls Tryz.prog 72 #[.string (txt s), .slice (some ⟨W.heap.size, 0, none⟩) 1 1, .string ⟨#[35, 91]⟩, .string ⟨#[93, 35]⟩, .map (some m)] (W.drew.alloc (.cells #[.string (txt key)] 9)) (ExpP W.heap.size (.slice (some ⟨W.heap.size, 0, none⟩) 1 1) 1 [key] R (W.drew.alloc (.cells #[.string (txt key)] 9)))) :=
    expand2_any W.heap.size m kv hn N hN d [key] s R _ _ hR (hm.of (al_old W.drew _ _ hml)) (own_one W.drew (txt key)) (by simp) (by simp)
  clear ho hm hn hR
  have C2 : Hid (Calls Tryz.prog 72 #[.string (txt s), .slice (some ⟨W.heap.size, 0, none⟩) 1 1, .string ⟨#[35, 91]⟩, .string ⟨#[93, 35]⟩, .map (some m)] (W.drew.alloc (.cells #[.string (txt key)] 9)) fun e w' => ∃ rs ev, e = .returned (.tuple #[.string rs, ev]) ∧ RetP R W (.returned (.tuple #[.string rs, ev])) w') := by
    refine C.out.mono ?_
    rintro e w' ⟨he, _, hb, _⟩
    have hb2 : Below W.heap.size W w' := ((Below.refl _ W).drew.alloc (Nat.le_refl _) _).trans hb
    cases R with
    | some r => exact ⟨_, _, he, rfl, hb2⟩
    | none =>
      obtain ⟨a, he⟩ := he
      exact ⟨_, _, he, ⟨a, rfl⟩, hb2⟩
  obtain ⟨P, hP⟩ : ∃ P, RetP R W = P := ⟨_, rfl⟩
  rw [hP] at C2 ⊢
  clear C hP hml
  go_enter Tryz.func63, Tryz.ntmps63
  go_upto_region 3 with fail
  go_region_law (go_simp; go_at_call 72; refine C2.out.mono ?_; rintro e w1 ⟨rs, ev, rfl, hb⟩)
  all_goals
    go_wp2
    go_ret2
    exact hb

/-- Two values set, the second one read. -/
theorem form_any (pre post k1 v1 k2 v2 r1 r2 : List UInt8) (va : Value) (w : World) (hS : Sx w va [(0, k1, v1, []), (0, k2, v2, []), (1, k2, [], [])]) (h1 : k1 ≠ []) (h2 : k2 ≠ []) (hne : k2 ≠ k1)
    (X1 : ∀ b m W, PoM pre post b m [(k1, v1)] W → ExpsOk b k1 v1 r1 W) (X2 : ∀ b m W, PoM pre post b m [(k1, v1), (k2, v2)] W → ExpsOk b k2 v2 r2 W) :
    Calls Tryz.prog 14 #[.string (txt pre), .string (txt post), .bool false, va] w fun e w' => ∃ y1 y2, e = .returned (.tuple #[y1, y2]) ∧ Ax w' y1 [⟨[], 0, false, false, []⟩, ⟨[], 0, false, false, []⟩, ⟨r2, 0, true, false, []⟩] ∧ (∃ ps, Px w' y2 ps) ∧ Below w.heap.size w w' := by
  refine (script_any pre post false _ va (fun i => match i with | 0 => ([], []) | 1 => ([(k1, v1)], []) | _ => ([(k1, v1), (k2, v2)], [])) (fun i => match i with | 2 => ⟨r2, 0, true, false, []⟩ | _ => ⟨[], 0, false, false, []⟩) w hS rfl (by simp) ?_ (by simp) (by simp [cmOf])).mono ?_
  · intro i x hx cb W hP hB
    match i, hx with
    | 0, hx =>
      simp at hx
      subst hx
      exact step_set pre post w.heap.size (w.heap.size + 3) w.heap.size cb false [] [(k1, v1)] [] k1 v1 [] [] false W hP hB.size (fun W' hp hb => set_newF pre post w.heap.size (w.heap.size + 3) w.heap.size cb [] [] k1 v1 r1 W' hp h1 (by simp) hb (by simp) (fun W2 hm => X1 _ _ W2 hm))
    | 1, hx =>
      simp at hx
      subst hx
      exact step_set pre post w.heap.size (w.heap.size + 3) w.heap.size cb false [(k1, v1)] [(k1, v1), (k2, v2)] [] k2 v2 [] [] false W hP hB.size (fun W' hp hb => set_newF pre post w.heap.size (w.heap.size + 3) w.heap.size cb [(k1, v1)] [] k2 v2 r2 W' hp h2 (by simpa using hne) hb (by simp) (fun W2 hm => X2 _ _ W2 hm))
    | 2, hx =>
      simp at hx
      subst hx
      exact step_get pre post w.heap.size (w.heap.size + 3) w.heap.size cb false [(k1, v1), (k2, v2)] [] k2 [] [] r2 true W hP hB.size (fun W' hp hb => (get_fullG pre post w.heap.size (w.heap.size + 3) w.heap.size cb [(k1, v1), (k2, v2)] [] k2 v2 r2 W' hp (by simp) (X2 _ _ W' hp.pom)).mono (fun e w' h => ⟨h.1, h.2⟩))
    | i + 3, hx => simp at hx
  · rintro e w' ⟨y1, y2, rfl, ha, hp, hb⟩
    exact ⟨y1, y2, rfl, ha, ⟨_, hp⟩, hb⟩
theorem sx_three (W : World) (s1 s2 s3 : StepA) : Sx (W.alloc (.cells #[.int .i64 s1.1, .string (txt s1.2.1), .string (txt s1.2.2.1), .string (txt s1.2.2.2), .int .i64 s2.1, .string (txt s2.2.1), .string (txt s2.2.2.1), .string (txt s2.2.2.2), .int .i64 s3.1, .string (txt s3.2.1), .string (txt s3.2.2.1), .string (txt s3.2.2.2)] 33)) (.slice (some ⟨W.heap.size, 0, none⟩) 3 3) [s1, s2, s3] := by
  refine ⟨_, 3, rfl, Nat.le_refl _, fun j x hj => ⟨W.heap.size, 0, rfl, ?_⟩⟩
  rw [World.cell?_alloc_new, World.cell?_alloc_new, World.cell?_alloc_new, World.cell?_alloc_new]
  match j, hj with
  | 0, hj => simp at hj; subst hj; exact ⟨rfl, rfl, rfl, rfl⟩
  | 1, hj => simp at hj; subst hj; exact ⟨rfl, rfl, rfl, rfl⟩
  | 2, hj => simp at hj; subst hj; exact ⟨rfl, rfl, rfl, rfl⟩
set_option maxHeartbeats 1600000 in
theorem few_two (a b : List UInt8) (w : World) (ha : a.length ≤ 2147483647) (hb : b.length ≤ 2147483647) :
    Calls Tryz.prog 11 #[.slice (some ⟨w.heap.size, 0, none⟩) 2 2] (w.alloc (.cells #[.string (txt a), .string (txt b)] 9)) fun e w' => e = .returned (.bool (decide (a.length + b.length + 2 ≤ 400))) ∧ w' = w.alloc (.cells #[.string (txt a), .string (txt b)] 9) := by
  have HT : Tx (w.alloc (.cells #[.string (txt a), .string (txt b)] 9)) (.slice (some ⟨w.heap.size, 0, none⟩) 2 2) [a, b] := ⟨_, 2, rfl, Nat.le_refl _, fun j x hj => ⟨w.heap.size, 0, rfl, by
    rw [Nat.zero_add, World.cell?_alloc_new]
    match j, hj with
    | 0, hj => simp at hj; subst hj; rfl
    | 1, hj => simp at hj; subst hj; rfl⟩⟩
  have hz : ([a, b].length + szs [a, b] : Nat) = a.length + b.length + 2 := by simp [szs]; omega
  have C := Lib.hid (size_any [a, b] _ _ HT (by rw [hz]; omega))
  rw [hz] at C
  clear HT hz
  have hd : decide (((a.length + b.length + 2 : Nat) : Int) ≤ 400) = decide (a.length + b.length + 2 ≤ 400) := by
    by_cases h : a.length + b.length + 2 ≤ 400
    · rw [decide_eq_true h, decide_eq_true (by omega)]
    · rw [decide_eq_false h, decide_eq_false (by omega)]
  obtain ⟨n, hn⟩ : ∃ n, a.length + b.length + 2 = n := ⟨_, rfl⟩
  rw [hn] at C hd ⊢
  have HD := Lib.hid hd
  clear hd hn
  go_enter Tryz.func11, Tryz.ntmps11
  go_wp2_with fail
  refine C.out.mono ?_
  rintro e w1 ⟨rfl, hw1⟩
  obtain rfl := hw1.symm
  go_wp2
  go_ret
  refine ⟨?_, rfl⟩
  rw [← HD.out]
  first | rfl | simp
theorem aln_of {l : List UInt8} (h : simB l = true) : Aln l ∧ l ≠ [] := by
  unfold simB at h
  rw [Bool.and_eq_true] at h
  obtain ⟨h1, h2⟩ := h
  refine ⟨fun c hc => ?_, fun e => by subst e; simp at h2⟩
  have h3 := List.all_eq_true.1 h1 c hc
  have e36 : (36 : UInt8).toNat = 36 := rfl
  have e35 : (35 : UInt8).toNat = 35 := rfl
  have e125 : (125 : UInt8).toNat = 125 := rfl
  have e93 : (93 : UInt8).toNat = 93 := rfl
  unfold letN at h3
  simp only [Bool.or_eq_true, decide_eq_true_eq] at h3
  refine ⟨?_, ?_, ?_, ?_⟩
  all_goals
    rintro rfl
    omega
theorem ex_b : exD2 [([97], [98]), ([99], [35, 91, 97, 93, 35])] 10 5 [[99]] [35, 91, 97, 93, 35] = some (some [98]) := by kernel_rfl
theorem ex_a : exD2 [([97], [98])] 10 5 [[97]] [98] = some (some [98]) := by kernel_rfl
set_option maxHeartbeats 6400000 in
set_option maxRecDepth 100000 in
theorem law_scriptForm (a0 a1 : ByteArray) (w : World) (y0 : a0.size ≤ 140737488351232) (y1 : a1.size ≤ 140737488351232) :
    Calls Tryz.prog 6 #[.string a0, .string a1] w fun e w' => e = .returned (.bool true) ∧ Below w.heap.size w w' := by
  obtain ⟨V, rfl⟩ : ∃ l, a0 = txt l := ⟨a0.data.toList, (txt_data a0).symm⟩
  obtain ⟨K, rfl⟩ : ∃ l, a1 = txt l := ⟨a1.data.toList, (txt_data a1).symm⟩
  have hzV := txt_size V
  have hzK := txt_size K
  by_cases hbig : (2147483647 : Int) < V.length
  · go_enter Tryz.func6, Tryz.ntmps6
    go_wp2
    go_ret
    exact ⟨rfl, Below.refl _ _⟩
  by_cases hbig2 : (2147483647 : Int) < K.length
  · go_enter Tryz.func6, Tryz.ntmps6
    go_wp2
    go_ret
    exact ⟨rfl, Below.refl _ _⟩
  have CX : Hid (Calls Tryz.prog 14 #[.string ⟨#[35, 91]⟩, .string ⟨#[93, 35]⟩, .bool false, .slice (some ⟨w.heap.size, 0, none⟩) 3 3]
      (w.alloc (.cells #[.int .i64 0, .string ⟨#[97]⟩, .string ⟨#[98]⟩, .string ⟨#[]⟩, .int .i64 0, .string ⟨#[99]⟩, .string ⟨#[35, 91, 97, 93, 35]⟩, .string ⟨#[]⟩, .int .i64 1, .string ⟨#[99]⟩, .string ⟨#[]⟩, .string ⟨#[]⟩] 33))
      fun e w' => ∃ y1 y2, e = .returned (.tuple #[y1, y2]) ∧ Ax w' y1 [⟨[], 0, false, false, []⟩, ⟨[], 0, false, false, []⟩, ⟨[98], 0, true, false, []⟩] ∧ (∃ ps, Px w' y2 ps) ∧ Below w.heap.size w w') := by
    have := form_any [35, 91] [93, 35] [97] [98] [99] [35, 91, 97, 93, 35] [98] [98] _ _ (sx_three w (0, [97], [98], []) (0, [99], [35, 91, 97, 93, 35], []) (1, [99], [], [])) (by simp) (by simp) (by decide)
      (fun b m W h => pexpM2 b m _ 10 (by decide) 5 [97] [98] [98] W h ex_a) (fun b m W h => pexpM2 b m _ 10 (by decide) 5 [99] _ [98] W h ex_b)
    refine this.mono ?_
    rintro e w' ⟨z1, z2, he, ha, hp, hb⟩
    exact ⟨z1, z2, he, ha, hp, ((Below.refl _ w).alloc (Nat.le_refl _) _).trans (hb.mono (by simp))⟩
  go_enter Tryz.func6, Tryz.ntmps6
  go_wp2_with fail
  refine CX.out.mono ?_
  rintro e w1 ⟨z1, z2, rfl, ⟨ao, cap, rfl, hcap, hx⟩, hpp, hb1⟩
  obtain ⟨g, o, pv, rfl, d0, _, d2, _, _, _⟩ := hx 2 _ rfl
  have c0 : w1.cell? ⟨g, o + 10, none⟩ = some (.string (txt [98])) := by simpa using d0
  have c2 : w1.cell? ⟨g, o + 12, none⟩ = some (.bool true) := by simpa [Nat.add_assoc] using d2
  have e0 : ((txt [98]).toList == ([98] : List UInt8)) = true := by rw [txt_toList]; rfl
  have HB1 := Lib.hid hb1
  have hs1 := hb1.size
  simp only [List.length_cons, List.length_nil, Nat.zero_add] at hcap
  clear hx d0 d2 hb1 CX hpp
  have CK := Lib.hid (simple_any K w1 (by omega))
  obtain ⟨bk, hbk⟩ : ∃ q, simB K = q := ⟨_, rfl⟩
  rw [hbk] at CK
  have HBK := Lib.hid hbk
  clear hbk
  go_wp2_with fail
  refine CK.out.mono ?_
  rintro e wk ⟨rfl, hwk⟩
  obtain rfl := hwk.symm
  clear CK
  cases bk with
  | false =>
    go_wp2
    go_ret
    exact ⟨rfl, HB1.out⟩
  | true =>
  have CV := Lib.hid (simple_any V w1 (by omega))
  obtain ⟨bv, hbv⟩ : ∃ q, simB V = q := ⟨_, rfl⟩
  rw [hbv] at CV
  have HBV := Lib.hid hbv
  clear hbv
  go_wp2_with fail
  refine CV.out.mono ?_
  rintro e wk ⟨rfl, hwk⟩
  obtain rfl := hwk.symm
  clear CV
  cases bv with
  | false =>
    go_wp2
    go_ret
    exact ⟨rfl, HB1.out⟩
  | true =>
  have CF := Lib.hid (few_two K V w1 (by omega) (by omega))
  have HB2 := Lib.hid (HB1.out.alloc hs1 (.cells #[.string (txt K), .string (txt V)] 9))
  go_wp2_with fail
  refine CF.out.mono ?_
  rintro e wk ⟨rfl, hwk⟩
  obtain rfl := hwk.symm
  clear CF c0 c2
  obtain ⟨W2, hW2⟩ : ∃ W2, w1.alloc (.cells #[.string (txt K), .string (txt V)] 9) = W2 := ⟨_, rfl⟩
  rw [hW2] at HB2 ⊢
  have hs2 := HB2.out.size
  clear hW2
  by_cases hf : K.length + V.length + 2 ≤ 400
  · rw [decide_eq_true hf]
    by_cases hzz : K = [122, 122]
    · have hez : ((txt K).toList == ([122, 122] : List UInt8)) = true := by rw [txt_toList, hzz]; rfl
      clear hzz
      go_wp2
      go_ret
      exact ⟨rfl, HB2.out⟩
    have hez : ((txt K).toList == ([122, 122] : List UInt8)) = false := by rw [txt_toList]; exact beq_eq_false_iff_ne.2 hzz
    obtain ⟨hAK, hK0⟩ := aln_of HBK.out
    obtain ⟨hAV, _⟩ := aln_of HBV.out
    have hBV : (⟨#[120, 35, 91]⟩ : ByteArray) ++ txt K ++ ⟨#[93, 35, 36, 123]⟩ ++ txt K ++ ⟨#[125]⟩ = txt (bothV K) := by
      rw [show (⟨#[120, 35, 91]⟩ : ByteArray) = txt [120, 35, 91] from rfl, show (⟨#[93, 35, 36, 123]⟩ : ByteArray) = txt [93, 35, 36, 123] from rfl, show (⟨#[125]⟩ : ByteArray) = txt [125] from rfl, txt_append, txt_append, txt_append, txt_append]; rfl
    have C2 : Hid (∀ W, Calls Tryz.prog 14 #[.string ⟨#[35, 91]⟩, .string ⟨#[93, 35]⟩, .bool false, .slice (some ⟨W.heap.size, 0, none⟩) 3 3]
        (W.alloc (.cells #[.int .i64 0, .string (txt K), .string (txt V), .string ⟨#[]⟩, .int .i64 0, .string ⟨#[122, 122]⟩, .string ((⟨#[120, 35, 91]⟩ : ByteArray) ++ txt K ++ ⟨#[93, 35, 36, 123]⟩ ++ txt K ++ ⟨#[125]⟩), .string ⟨#[]⟩, .int .i64 1, .string ⟨#[122, 122]⟩, .string ⟨#[]⟩, .string ⟨#[]⟩] 33))
        fun e w' => ∃ y1 y2, e = .returned (.tuple #[y1, y2]) ∧ Ax w' y1 [⟨[], 0, false, false, []⟩, ⟨[], 0, false, false, []⟩, ⟨[120] ++ V ++ [36, 123] ++ K ++ [125], 0, true, false, []⟩] ∧ (∃ ps, Px w' y2 ps) ∧ Below W.heap.size W w') := by
      show ∀ _, _
      intro W
      rw [hBV]
      have := form_any [35, 91] [93, 35] K V [122, 122] (bothV K) V ([120] ++ V ++ [36, 123] ++ K ++ [125]) _ _ (sx_three W (0, K, V, []) (0, [122, 122], bothV K, []) (1, [122, 122], [], [])) hK0 (by simp) (fun e => hzz e.symm)
        (fun b m W h => pexpM2 b m _ 10 (by decide) 5 K V V W h (one_ex2 _ _ V hAV (by omega) (by simp) 4)) (fun b m W h => pexpM2 b m _ 10 (by decide) 5 [122, 122] _ _ W h (both_ex2 K V hAK hAV (by omega) (by omega) hzz))
      refine this.mono ?_
      rintro e w' ⟨z1, z2, he, ha, hp, hb⟩
      exact ⟨z1, z2, he, ha, hp, ((Below.refl _ W).alloc (Nat.le_refl _) _).trans (hb.mono (by simp))⟩
    have C3 : Hid (∀ W, Calls Tryz.prog 14 #[.string ⟨#[36, 123]⟩, .string ⟨#[125]⟩, .bool false, .slice (some ⟨W.heap.size, 0, none⟩) 3 3]
        (W.alloc (.cells #[.int .i64 0, .string (txt K), .string (txt V), .string ⟨#[]⟩, .int .i64 0, .string ⟨#[122, 122]⟩, .string ((⟨#[120, 35, 91]⟩ : ByteArray) ++ txt K ++ ⟨#[93, 35, 36, 123]⟩ ++ txt K ++ ⟨#[125]⟩), .string ⟨#[]⟩, .int .i64 1, .string ⟨#[122, 122]⟩, .string ⟨#[]⟩, .string ⟨#[]⟩] 33))
        fun e w' => ∃ y1 y2, e = .returned (.tuple #[y1, y2]) ∧ Ax w' y1 [⟨[], 0, false, false, []⟩, ⟨[], 0, false, false, []⟩, ⟨[120, 35, 91] ++ K ++ [93, 35] ++ V, 0, true, false, []⟩] ∧ (∃ ps, Px w' y2 ps) ∧ Below W.heap.size W w') := by
      show ∀ _, _
      intro W
      rw [hBV]
      have := form_any [36, 123] [125] K V [122, 122] (bothV K) V ([120, 35, 91] ++ K ++ [93, 35] ++ V) _ _ (sx_three W (0, K, V, []) (0, [122, 122], bothV K, []) (1, [122, 122], [], [])) hK0 (by simp) (fun e => hzz e.symm)
        (fun b m W h => pexpM b m _ 10 (by decide) 5 K V V W h (one_ex _ _ V hAV (by omega) (by simp) 4)) (fun b m W h => pexpM b m _ 10 (by decide) 5 [122, 122] _ _ W h (both_ex K V hAK hAV (by omega) (by omega) hzz))
      refine this.mono ?_
      rintro e w' ⟨z1, z2, he, ha, hp, hb⟩
      exact ⟨z1, z2, he, ha, hp, ((Below.refl _ W).alloc (Nat.le_refl _) _).trans (hb.mono (by simp))⟩
    have q1 : ((⟨#[120, 35, 91]⟩ : ByteArray) ++ txt K).size = 3 + K.length := by rw [show (⟨#[120, 35, 91]⟩ : ByteArray) = txt [120, 35, 91] from rfl, txt_append, txt_size, List.length_append]; rfl
    have q2 : ((⟨#[120, 35, 91]⟩ : ByteArray) ++ txt K ++ ⟨#[93, 35, 36, 123]⟩).size = 3 + K.length + 4 := by rw [show (⟨#[120, 35, 91]⟩ : ByteArray) = txt [120, 35, 91] from rfl, show (⟨#[93, 35, 36, 123]⟩ : ByteArray) = txt [93, 35, 36, 123] from rfl, txt_append, txt_append, txt_size, List.length_append, List.length_append]; rfl
    have q3 : ((⟨#[120, 35, 91]⟩ : ByteArray) ++ txt K ++ ⟨#[93, 35, 36, 123]⟩ ++ txt K).size = 3 + K.length + 4 + K.length := by rw [show (⟨#[120, 35, 91]⟩ : ByteArray) = txt [120, 35, 91] from rfl, show (⟨#[93, 35, 36, 123]⟩ : ByteArray) = txt [93, 35, 36, 123] from rfl, txt_append, txt_append, txt_append, txt_size, List.length_append, List.length_append, List.length_append]; rfl
    clear hBV hzz hAK hAV hK0
    go_wp2_with fail
    refine (C2.out W2).mono ?_
    rintro e w3 ⟨z1, z2, rfl, ⟨ao3, cap3, rfl, hcap3, hx3⟩, _, hb3⟩
    obtain ⟨g3, o3, pv3, rfl, d30, _⟩ := hx3 2 _ rfl
    have c30 : w3.cell? ⟨g3, o3 + 10, none⟩ = some (.string (txt ([120] ++ V ++ [36, 123] ++ K ++ [125]))) := by simpa using d30
    have HB3 := Lib.hid (HB2.out.trans (hb3.mono hs2))
    have hs3 := HB3.out.size
    simp only [List.length_cons, List.length_nil, Nat.zero_add] at hcap3
    clear hx3 d30 hb3 C2
    go_wp2_with fail
    refine (C3.out w3).mono ?_
    rintro e w4 ⟨z3, z4, rfl, ⟨ao4, cap4, rfl, hcap4, hx4⟩, _, hb4⟩
    obtain ⟨g4, o4, pv4, rfl, d40, _⟩ := hx4 2 _ rfl
    have c40 : w4.cell? ⟨g4, o4 + 10, none⟩ = some (.string (txt ([120, 35, 91] ++ K ++ [93, 35] ++ V))) := by simpa using d40
    have c31 : w4.cell? ⟨g3, o3 + 10, none⟩ = some (.string (txt ([120] ++ V ++ [36, 123] ++ K ++ [125]))) := (hb4.cell (World.block_lt_of_cell? w3 _ c30)).trans c30
    have HB4 := Lib.hid (HB3.out.trans (hb4.mono hs3))
    simp only [List.length_cons, List.length_nil, Nat.zero_add] at hcap4
    have t1 : (⟨#[120]⟩ : ByteArray) ++ txt V ++ ⟨#[36, 123]⟩ ++ txt K ++ ⟨#[125]⟩ = txt ([120] ++ V ++ [36, 123] ++ K ++ [125]) := by
      rw [show (⟨#[120]⟩ : ByteArray) = txt [120] from rfl, show (⟨#[36, 123]⟩ : ByteArray) = txt [36, 123] from rfl, show (⟨#[125]⟩ : ByteArray) = txt [125] from rfl, txt_append, txt_append, txt_append, txt_append]
    have t2 : (⟨#[120, 35, 91]⟩ : ByteArray) ++ txt K ++ ⟨#[93, 35]⟩ ++ txt V = txt ([120, 35, 91] ++ K ++ [93, 35] ++ V) := by
      rw [show (⟨#[120, 35, 91]⟩ : ByteArray) = txt [120, 35, 91] from rfl, show (⟨#[93, 35]⟩ : ByteArray) = txt [93, 35] from rfl, txt_append, txt_append, txt_append]
    have p1 : ((⟨#[120]⟩ : ByteArray) ++ txt V).size = 1 + V.length := by rw [show (⟨#[120]⟩ : ByteArray) = txt [120] from rfl, txt_append, txt_size, List.length_append]; rfl
    have p2 : ((⟨#[120]⟩ : ByteArray) ++ txt V ++ ⟨#[36, 123]⟩).size = 1 + V.length + 2 := by rw [show (⟨#[120]⟩ : ByteArray) = txt [120] from rfl, show (⟨#[36, 123]⟩ : ByteArray) = txt [36, 123] from rfl, txt_append, txt_append, txt_size, List.length_append, List.length_append]; rfl
    have p3 : ((⟨#[120]⟩ : ByteArray) ++ txt V ++ ⟨#[36, 123]⟩ ++ txt K).size = 1 + V.length + 2 + K.length := by rw [show (⟨#[120]⟩ : ByteArray) = txt [120] from rfl, show (⟨#[36, 123]⟩ : ByteArray) = txt [36, 123] from rfl, txt_append, txt_append, txt_append, txt_size, List.length_append, List.length_append, List.length_append]; rfl
    have p4 : ((⟨#[120, 35, 91]⟩ : ByteArray) ++ txt K ++ ⟨#[93, 35]⟩).size = 3 + K.length + 2 := by rw [show (⟨#[120, 35, 91]⟩ : ByteArray) = txt [120, 35, 91] from rfl, show (⟨#[93, 35]⟩ : ByteArray) = txt [93, 35] from rfl, txt_append, txt_append, txt_size, List.length_append, List.length_append]; rfl
    rw [← t1] at c31
    rw [← t2] at c40
    have q5 : (((⟨#[120]⟩ : ByteArray) ++ txt V ++ ⟨#[36, 123]⟩ ++ txt K ++ ⟨#[125]⟩).toList == ((⟨#[120]⟩ : ByteArray) ++ txt V ++ ⟨#[36, 123]⟩ ++ txt K ++ ⟨#[125]⟩).toList) = true := by simp
    have q6 : (((⟨#[120, 35, 91]⟩ : ByteArray) ++ txt K ++ ⟨#[93, 35]⟩ ++ txt V).toList == ((⟨#[120, 35, 91]⟩ : ByteArray) ++ txt K ++ ⟨#[93, 35]⟩ ++ txt V).toList) = true := by simp
    clear hx4 d40 hb4 C3 t1 t2 c30
    go_wp2
    go_ret
    exact ⟨rfl, HB4.out⟩
  · rw [decide_eq_false hf]
    go_wp2
    go_ret
    exact ⟨rfl, HB2.out⟩

end Go.Proofs.YtdfhidnhkeapbaaGreatDoor
