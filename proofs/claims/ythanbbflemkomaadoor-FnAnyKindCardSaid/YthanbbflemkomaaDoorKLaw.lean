/- The law FnAnyKind: words of any of eight kinds are converted to each of eight kinds. -/
import Derived.Test.YthanbbflemkomaaDoorKSty
import Derived.Test.YthanbbflemkomaaDoorCIgn
import Derived.Test.YthanbbflemkomaaDoorCRoads
namespace Go.Proofs.YthanbbflemkomaaDoor
open Go.RowKit U8
open Go.Lib hiding intOf

theorem nms {l : List (List UInt8)} (h : namesB l = true) : 0 < l.length ∧ l.length ≤ 20 ∧ ∀ w ∈ l, Nm w ∧ w.length ≤ 30 := by
  unfold namesB at h
  simp only [Bool.and_eq_true, List.all_eq_true, decide_eq_true_eq] at h
  refine ⟨h.1.2, h.2, fun w hw => ?_⟩
  have h2 := h.1.1 w hw
  unfold nmB at h2
  simp only [Bool.and_eq_true, List.all_eq_true, decide_eq_true_eq] at h2
  exact ⟨⟨h2.1.1, h2.2⟩, h2.1.2⟩
theorem joinA_map (f : UInt8 → UInt8) (sep : List UInt8) (l : List (List UInt8)) : (joinA sep l).map f = joinA (sep.map f) (l.map (List.map f)) := by
  cases l with
  | nil => rfl
  | cons x l =>
    show (x ++ l.flatMap fun y => sep ++ y).map f = x.map f ++ (l.map (List.map f)).flatMap fun y => sep.map f ++ y
    rw [List.map_append, List.map_flatMap, List.flatMap_map]
    simp
theorem joinA_mem {sep : List UInt8} {l : List (List UInt8)} {b : UInt8} (h : b ∈ joinA sep l) : b ∈ sep ∨ ∃ w ∈ l, b ∈ w := by
  cases l with
  | nil => cases h
  | cons x l =>
    rcases List.mem_append.1 h with h | h
    · exact .inr ⟨x, by simp, h⟩
    · obtain ⟨y, hy, h⟩ := List.mem_flatMap.1 h
      rcases List.mem_append.1 h with h | h
      · exact .inl h
      · exact .inr ⟨y, by simp [hy], h⟩
theorem low_asc {b : UInt8} (h : isLow b = true) : b.toNat < 128 ∧ (toUp b).toNat < 128 := by
  have := low_nat h
  rw [up_nat h]
  omega
theorem tit_mem {w : List UInt8} {b : UInt8} (h : b ∈ tit w) : b ∈ w ∨ ∃ c ∈ w, b = toUp c := by
  cases w with
  | nil => cases h
  | cons c r =>
    rcases List.mem_cons.1 h with h | h
    · exact .inr ⟨c, by simp, h⟩
    · exact .inl (by simp [h])
theorem sty_asc {l : List (List UInt8)} (h : ∀ w ∈ l, Nm w) (k : Nat) : ∀ b ∈ styA l k, b.toNat < 128 := by
  have hj : ∀ sep : List UInt8, (∀ b ∈ sep, b.toNat < 128) → ∀ b ∈ joinA sep l, b.toNat < 128 := fun sep hs b hb => by
    rcases joinA_mem hb with h1 | ⟨w, hw, h1⟩
    · exact hs b h1
    · exact (low_asc ((h w hw).2 b h1)).1
  have hju : ∀ sep : List UInt8, (∀ b ∈ sep, b.toNat < 128 ∧ (toUp b).toNat < 128) → ∀ b ∈ (joinA sep l).map toUp, b.toNat < 128 := fun sep hs b hb => by
    obtain ⟨c, hc, rfl⟩ := List.mem_map.1 hb
    rcases joinA_mem hc with h1 | ⟨w, hw, h1⟩
    · exact (hs c h1).2
    · exact (low_asc ((h w hw).2 c h1)).2
  have hjt : ∀ l2 : List (List UInt8), (∀ w ∈ l2, Nm w) → ∀ b ∈ joinA [] (l2.map tit), b.toNat < 128 := fun l2 h2 b hb => by
    rcases joinA_mem hb with h1 | ⟨w, hw, h1⟩
    · cases h1
    · obtain ⟨x, hx, rfl⟩ := List.mem_map.1 hw
      rcases tit_mem h1 with h1 | ⟨c, hc, rfl⟩
      · exact (low_asc ((h2 x hx).2 b h1)).1
      · exact (low_asc ((h2 x hx).2 c hc)).2
  match k with
  | 0 => exact hj [95] (by decide)
  | 1 => exact hju [95] (by decide)
  | 2 => exact hj [45] (by decide)
  | 3 => exact hju [45] (by decide)
  | 4 => exact hj [32] (by decide)
  | 5 => exact hj [46] (by decide)
  | 6 => exact hjt l h
  | k + 7 =>
    intro b hb
    rcases List.mem_append.1 hb with h1 | h1
    · cases l with
      | nil => cases h1
      | cons x l => exact (low_asc ((h x (by simp)).2 b h1)).1
    · exact hjt l.tail (fun w hw => h w (List.mem_of_mem_tail hw)) b h1
/-- The ends of a text are no blanks. -/
def Ends (l : List UInt8) : Prop := (∃ c r, l = c :: r ∧ Lib.isSp c = false) ∧ ∃ p q, l = p ++ [q] ∧ Lib.isSp q = false
theorem Ends.app {a b : List UInt8} (ha : Ends a) (hb : Ends b) (m : List UInt8) : Ends (a ++ (m ++ b)) := by
  obtain ⟨⟨c, r, rfl, hc⟩, _⟩ := ha
  obtain ⟨_, p, q, rfl, hq⟩ := hb
  exact ⟨⟨c, _, rfl, hc⟩, c :: r ++ (m ++ p), q, by simp, hq⟩
theorem joinA_ends (sep : List UInt8) : ∀ l : List (List UInt8), l ≠ [] → (∀ w ∈ l, Ends w) → Ends (joinA sep l) := by
  intro l
  induction hn : l.length generalizing l with
  | zero => intro h0; exact absurd (List.length_eq_zero_iff.1 hn) h0
  | succ n ih =>
    intro _ h
    rcases List.eq_nil_or_concat l with rfl | ⟨p, q, e⟩
    · simp at hn
    · rw [List.concat_eq_append] at e
      subst e
      rw [joinA_snoc]
      by_cases hp : p = []
      · subst hp
        exact h q (by simp)
      · rw [if_neg hp]
        exact (ih p (by simpa using hn) hp (fun w hw => h w (by simp [hw]))).app (h q (by simp)) sep
theorem trim_ends {l : List UInt8} (h : Ends l) : trimSpace l = l := by
  obtain ⟨⟨c, r, e1, hc⟩, p, q, e2, hq⟩ := h
  exact trim_id (by rw [e1]; rfl) hc e2 hq
theorem nm_low_ends {w : List UInt8} (h : Nm w) : Ends w := by
  obtain ⟨⟨c, r, e, hc⟩, p, q, e2, hq, _⟩ := nm_ends h
  exact ⟨⟨c, r, e, (not_sp hc).1⟩, p, q, e2, (not_sp hq).1⟩
theorem nm_up_ends {w : List UInt8} (h : Nm w) : Ends (w.map toUp) := by
  obtain ⟨⟨c, r, e, hc⟩, p, q, e2, hq, _⟩ := nm_ends h
  exact ⟨⟨toUp c, r.map toUp, by rw [e]; rfl, (not_sp hc).2⟩, p.map toUp, toUp q, by rw [e2]; simp, (not_sp hq).2⟩
theorem nm_tit_ends {w : List UInt8} (h : Nm w) : Ends (tit w) := by
  obtain ⟨⟨c, r, e, hc⟩, p, q, e2, hq, hp⟩ := nm_ends h
  refine ⟨⟨toUp c, r, by rw [e]; rfl, (not_sp hc).2⟩, ?_⟩
  cases p with
  | nil => exact absurd rfl hp
  | cons d p => exact ⟨toUp d :: p, q, by rw [e2]; rfl, (not_sp hq).1⟩
theorem sty_ends {l : List (List UInt8)} (hl : l ≠ []) (h : ∀ w ∈ l, Nm w) (k : Nat) : Ends (styA l k) := by
  have h1 := fun sep => joinA_ends sep l hl (fun w hw => nm_low_ends (h w hw))
  have h2 := fun sep => joinA_ends sep (l.map (List.map toUp)) (by simpa using hl) (fun w hw => by obtain ⟨x, hx, rfl⟩ := List.mem_map.1 hw; exact nm_up_ends (h x hx))
  have h3 := fun (l : List (List UInt8)) (hl : l ≠ []) (h : ∀ w ∈ l, Nm w) => joinA_ends [] (l.map tit) (by simpa using hl) (fun w hw => by obtain ⟨x, hx, rfl⟩ := List.mem_map.1 hw; exact nm_tit_ends (h x hx))
  match k with
  | 0 => exact h1 [95]
  | 1 => show Ends ((joinA [95] l).map toUp); rw [joinA_map]; exact h2 _
  | 2 => exact h1 [45]
  | 3 => show Ends ((joinA [45] l).map toUp); rw [joinA_map]; exact h2 _
  | 4 => exact h1 [32]
  | 5 => exact h1 [46]
  | 6 => exact h3 l hl h
  | k + 7 =>
    show Ends (l.headD [] ++ joinA [] (l.tail.map tit))
    match l, hl, h with
    | [x], _, h => simpa [joinA] using nm_low_ends (h x (by simp))
    | x :: y :: l, _, h => exact (nm_low_ends (h x (by simp))).app (h3 (y :: l) (by simp) (fun w hw => h w (by simp [hw]))) []
theorem ig0 (x : UInt8) : igB [] x = false := rfl
theorem map_lo {w : List UInt8} (h : Nm w) : w.map (turn false) = w := by
  refine (List.map_congr_left fun b hb => ?_).trans (List.map_id w)
  exact low_lo (h.2 b hb)
theorem maps_lo {l : List (List UInt8)} (h : ∀ w ∈ l, Nm w) : l.map (List.map (turn false)) = l :=
  (List.map_congr_left fun w hw => map_lo (h w hw)).trans (List.map_id l)
/-- What strcase makes of words in a style. -/
theorem del_lo {l : List (List UInt8)} (hl : l ≠ []) (h : ∀ w ∈ l, Nm w) (k : Nat) (d : UInt8) : del d false (igB []) none (trimSpaceD (styA l k)) = joinA [d] l := by
  rw [trim_asc _ (sty_asc h k), trim_ends (sty_ends hl h k), del_sty ig0 l hl h k, maps_lo h]
theorem del_up {l : List (List UInt8)} (hl : l ≠ []) (h : ∀ w ∈ l, Nm w) (k : Nat) (d : UInt8) (hd : toUp d = d) : del d true (igB []) none (trimSpaceD (styA l k)) = (joinA [d] l).map toUp := by
  rw [trim_asc _ (sty_asc h k), trim_ends (sty_ends hl h k), del_sty ig0 l hl h k, joinA_map]
  show joinA [d] (l.map (List.map toUp)) = joinA [toUp d] _
  rw [hd]
theorem cam_of {l : List (List UInt8)} (hl : l ≠ []) (h : ∀ w ∈ l, Nm w) (k : Nat) (g : Bool) : cam g true (trimSpaceD (styA l k)) = if g then styA l 6 else styA l 7 := by
  rw [trim_asc _ (sty_asc h k), trim_ends (sty_ends hl h k), cam_sty l hl h g k]
theorem snake_ex (w : World) (hS : Spc w) :
    Calls Tryd.prog 7 #[.string ⟨#[65, 110, 121, 75, 105, 110, 100, 32, 111, 102, 95, 115, 116, 114, 105, 110, 103]⟩] w fun e w' => e = .returned (.string ⟨#[97, 110, 121, 95, 107, 105, 110, 100, 95, 111, 102, 95, 115, 116, 114, 105, 110, 103]⟩) ∧ Below w.heap.size w w' := by
  have h := snake_any [65, 110, 121, 75, 105, 110, 100, 32, 111, 102, 95, 115, 116, 114, 105, 110, 103] w (by decide) (by decide) hS
  rw [show del 95 false (igB []) none (trimSpaceD [65, 110, 121, 75, 105, 110, 100, 32, 111, 102, 95, 115, 116, 114, 105, 110, 103]) = [97, 110, 121, 95, 107, 105, 110, 100, 95, 111, 102, 95, 115, 116, 114, 105, 110, 103] by decide +kernel] at h
  exact h

set_option maxHeartbeats 6400000 in
set_option maxRecDepth 100000 in
theorem law_anyKind (l : List (List UInt8)) (v : Value) (k : Int) (w : World) (hT : Tx w v l) (hm : l.length ≤ 9223372036854775807) (hx2 : ∀ x ∈ l, x.length ≤ 9223372036854775807) (hk0 : 0 ≤ k) (hk1 : k ≤ 255) (hS : Spc w) :
    Calls Tryd.prog 3 #[v, .int .u8 k] w fun e w' => e = .returned (.bool true) ∧ Below w.heap.size w w' := by
  have hbr := Below.refl w.heap.size w
  have CF := Lib.hid (fits_any l v w hT hm hx2)
  have CE := Lib.hid (snake_ex w hS)
  obtain ⟨x, rfl⟩ : ∃ x : Nat, k = x := ⟨k.toNat, by omega⟩
  have hk : x ≤ 255 := by omega
  have HT := Lib.hid hT
  cases hf : fitsB l with
  | false =>
    rw [hf] at CF
    clear hf
    go_enter Tryd.func3, Tryd.ntmps3
    go_wp2_with fail
    refine CF.out.mono ?_
    rintro e wx ⟨rfl, hwx⟩
    obtain rfl := hwx.symm
    go_wp2
    go_ret
    exact ⟨rfl, hbr⟩
  | true =>
  rw [hf] at CF
  have hff := hf
  unfold fitsB at hff
  rw [Bool.and_eq_true] at hff
  have hxz : ∀ x ∈ l, x.length ≤ 2147483647 := fun x hx => of_decide_eq_true (List.all_eq_true.1 hff.2 x hx)
  have CN := Lib.hid fun W (h : Below w.heap.size w W) => names_any l v W (HT.out.below h) (of_decide_eq_true hff.1) hxz
  clear hff hf hxz
  cases hn : namesB l with
  | false =>
    rw [hn] at CN
    clear hn
    go_enter Tryd.func3, Tryd.ntmps3
    go_wp2_with fail
    refine CF.out.mono ?_
    rintro e wx ⟨rfl, hwx⟩
    obtain rfl := hwx.symm
    go_wp2_with fail
    refine CE.out.mono ?_
    rintro e w1 ⟨rfl, hw1⟩
    go_wp2_with fail
    refine (CN.out w1 hw1).mono ?_
    rintro e w2 ⟨rfl, hw2⟩
    obtain rfl := hw2.symm
    go_wp2
    go_ret
    exact ⟨rfl, hw1⟩
  | true =>
  rw [hn] at CN
  obtain ⟨h0, h20, hNm⟩ := nms hn
  clear hn
  have hl0 : l ≠ [] := by intro h; rw [h] at h0; exact absurd h0 (by simp)
  have hN := fun w hw => (hNm w hw).1
  have hx1 : ∀ x ∈ l, 1 ≤ x.length ∧ x.length ≤ 1000 := fun x hx => by have h1 := (hNm x hx).1.1; have h2 := (hNm x hx).2; omega
  have hsz : szs l ≤ 20000 := by
    have h2 : ∀ l : List (List UInt8), (∀ w ∈ l, w.length ≤ 30) → szs l ≤ l.length * 30 := by
      intro l
      induction l with
      | nil => intro _; simp [szs]
      | cons x l ih =>
        intro h
        have h3 := h x (by simp)
        have h4 := ih fun w hw => h w (by simp [hw])
        rw [szs_cons, List.length_cons, Nat.add_mul]
        omega
    have := h2 l fun w hw => (hNm w hw).2
    omega
  have hsl := sty_len l (x % 8)
  have hslen : (styA l (x % 8)).length ≤ 1000000 := by omega
  have hasc := sty_asc hN (x % 8)
  have CS := fun (j : Nat) (hj : j ≤ 255) W (h : Below w.heap.size w W) => styled_any l v j W (HT.out.below h) h0 (by omega) hx1 hj hsz
  have S0 : ∀ W, Below w.heap.size w W → Calls Tryd.prog 10 #[v, .int .u8 0] W fun e w' => e = .returned (.string (txt (styA l 0))) ∧ Below W.heap.size W w' := fun W h => CS 0 (by omega) W h
  have S1 : ∀ W, Below w.heap.size w W → Calls Tryd.prog 10 #[v, .int .u8 1] W fun e w' => e = .returned (.string (txt (styA l 1))) ∧ Below W.heap.size W w' := fun W h => CS 1 (by omega) W h
  have S2 : ∀ W, Below w.heap.size w W → Calls Tryd.prog 10 #[v, .int .u8 2] W fun e w' => e = .returned (.string (txt (styA l 2))) ∧ Below W.heap.size W w' := fun W h => CS 2 (by omega) W h
  have S3 : ∀ W, Below w.heap.size w W → Calls Tryd.prog 10 #[v, .int .u8 3] W fun e w' => e = .returned (.string (txt (styA l 3))) ∧ Below W.heap.size W w' := fun W h => CS 3 (by omega) W h
  have S5 : ∀ W, Below w.heap.size w W → Calls Tryd.prog 10 #[v, .int .u8 5] W fun e w' => e = .returned (.string (txt (styA l 5))) ∧ Below W.heap.size W w' := fun W h => CS 5 (by omega) W h
  have S6 : ∀ W, Below w.heap.size w W → Calls Tryd.prog 10 #[v, .int .u8 6] W fun e w' => e = .returned (.string (txt (styA l 6))) ∧ Below W.heap.size W w' := fun W h => CS 6 (by omega) W h
  have S7 : ∀ W, Below w.heap.size w W → Calls Tryd.prog 10 #[v, .int .u8 7] W fun e w' => e = .returned (.string (txt (styA l 7))) ∧ Below W.heap.size W w' := fun W h => CS 7 (by omega) W h
  have SX := CS x hk
  clear CS
  have C0 : ∀ W, Spc W → Calls Tryd.prog 7 #[.string (txt (styA l (x % 8)))] W fun e w' => e = .returned (.string (txt (styA l 0))) ∧ Below W.heap.size W w' := fun W h => by
    have c := snake_any (styA l (x % 8)) W hslen hasc h
    rw [del_lo hl0 hN] at c
    exact c
  have C1 : ∀ W, Spc W → Calls Tryd.prog 11 #[.string (txt (styA l (x % 8)))] W fun e w' => e = .returned (.string (txt (styA l 1))) ∧ Below W.heap.size W w' := fun W h => by
    have c := scrSnake_any (styA l (x % 8)) W hslen hasc h
    rw [del_up hl0 hN _ _ (by decide)] at c
    exact c
  have C2 : ∀ W, Spc W → Calls Tryd.prog 12 #[.string (txt (styA l (x % 8)))] W fun e w' => e = .returned (.string (txt (styA l 2))) ∧ Below W.heap.size W w' := fun W h => by
    have c := kebab_any (styA l (x % 8)) W hslen hasc h
    rw [del_lo hl0 hN] at c
    exact c
  have C3 : ∀ W, Spc W → Calls Tryd.prog 13 #[.string (txt (styA l (x % 8)))] W fun e w' => e = .returned (.string (txt (styA l 3))) ∧ Below W.heap.size W w' := fun W h => by
    have c := scrKebab_any (styA l (x % 8)) W hslen hasc h
    rw [del_up hl0 hN _ _ (by decide)] at c
    exact c
  have C5 : ∀ W, Spc W → Calls Tryd.prog 14 #[.string (txt (styA l (x % 8))), .int .u8 46] W fun e w' => e = .returned (.string (txt (styA l 5))) ∧ Below W.heap.size W w' := fun W h => by
    have c := toDel_any (styA l (x % 8)) 46 W hslen hasc h
    rw [del_lo hl0 hN] at c
    exact c
  have C9 : ∀ W, Spc W → Calls Tryd.prog 15 #[.string (txt (styA l (x % 8))), .int .u8 46, .string ⟨#[]⟩, .bool true] W fun e w' => e = .returned (.string (txt ((styA l 5).map toUp))) ∧ Below W.heap.size W w' := fun W h => by
    have c := scrDel_any (styA l (x % 8)) 46 [] true W hslen hasc h
    rw [del_up hl0 hN _ _ (by decide)] at c
    exact c
  have C6 : ∀ W, Spc W → Calls Tryd.prog 16 #[.string (txt (styA l (x % 8)))] W fun e w' => e = .returned (.string (txt (styA l 6))) ∧ Below W.heap.size W w' := fun W h => by
    have c := toCamel_any (styA l (x % 8)) W hslen h
    rw [cam_of hl0 hN] at c
    exact c
  have C7 : ∀ W, Spc W → Calls Tryd.prog 17 #[.string (txt (styA l (x % 8)))] W fun e w' => e = .returned (.string (txt (styA l 7))) ∧ Below W.heap.size W w' := fun W h => by
    have c := toLowerCamel_any (styA l (x % 8)) W hslen h
    rw [cam_of hl0 hN] at c
    exact c
  have h5len := sty_len l 5
  have CU : ∀ W, Calls Tryd.prog 9 #[.string (txt (styA l 5))] W fun e w' => e = .returned (.string (txt ((styA l 5).map toUp))) ∧ Below W.heap.size W w' := fun W => upper_any (styA l 5) W (by omega)
  generalize (styA l 5).map toUp = R9 at *
  generalize styA l 0 = R0 at *
  generalize styA l 1 = R1 at *
  generalize styA l 2 = R2 at *
  generalize styA l 3 = R3 at *
  generalize styA l 5 = R5 at *
  generalize styA l 6 = R6 at *
  generalize styA l 7 = R7 at *
  generalize styA l (x % 8) = S at *
  have HS0 := Lib.hid S0
  have HS1 := Lib.hid S1
  have HS2 := Lib.hid S2
  have HS3 := Lib.hid S3
  have HS5 := Lib.hid S5
  have HS6 := Lib.hid S6
  have HS7 := Lib.hid S7
  have HSX := Lib.hid SX
  have HC0 := Lib.hid C0
  have HC1 := Lib.hid C1
  have HC2 := Lib.hid C2
  have HC3 := Lib.hid C3
  have HC5 := Lib.hid C5
  have HC9 := Lib.hid C9
  have HC6 := Lib.hid C6
  have HC7 := Lib.hid C7
  have HCU := Lib.hid CU
  clear S0 S1 S2 S3 S5 S6 S7 SX C0 C1 C2 C3 C5 C9 C6 C7 CU hslen hasc hsl h5len hsz hNm hN
  obtain ⟨ao, cap, hv, hcp, hx⟩ := hT
  match l, h0 with
  | y :: l, _ =>
  obtain ⟨g, o, rfl, cy⟩ := hx 0 y rfl
  subst hv
  rw [Nat.add_zero] at cy
  have hyl := (hx1 y (by simp)).2
  have CY := Lib.hid fun W => upper_any y W (by omega)
  have hl1 : (0 : Int) < (l.length : Int) + 1 := by omega
  have hlen : (y :: l).length = l.length + 1 := rfl
  have CY2 := Lib.hid cy
  have HS := Lib.hid hS
  clear hx hx1 hcp hl0 hm hx2 hS
  obtain ⟨D, hD⟩ : ∃ D, ((txt (y.map upB)).toList == [73, 68]) = D := ⟨_, rfl⟩
  obtain ⟨U, hU⟩ : ∃ U, txt (y.map upB) = U := ⟨_, rfl⟩
  rw [hU] at CY hD
  clear hU
  rcases (show (D = true ∧ (l.length : Int) + 1 = 1) ∨ (D = true ∧ (l.length : Int) + 1 ≠ 1) ∨ D = false by cases D <;> simp <;> omega) with ⟨rfl, hl⟩ | h
  · have hq : (((l.length : Int) + 1) == 1) = true := by rw [hl]; rfl
    clear hl
    go_enter Tryd.func3, Tryd.ntmps3
    go_wp2_with fail
    refine CF.out.mono ?_
    rintro e wx ⟨rfl, hwx⟩
    obtain rfl := hwx.symm
    go_wp2_with fail
    refine CE.out.mono ?_
    rintro e w1 ⟨rfl, hb1⟩
    have HB1 := Lib.hid hb1
    have cz1 := (HB1.out.cell (World.block_lt_of_cell? _ _ CY2.out)).trans CY2.out
    clear hb1 cy
    go_wp2_with fail
    refine (CN.out _ HB1.out).mono ?_
    rintro e w2 ⟨rfl, hw2⟩
    obtain rfl := hw2.symm
    go_wp2_with fail
    refine (CY.out _).mono ?_
    rintro e w3 ⟨rfl, hb3⟩
    have HB3 := Lib.hid (chain HB1.out hb3)
    clear hb3
    go_wp2
    go_ret
    exact ⟨ret_bool (by simp), HB3.out⟩
  rcases h with ⟨rfl, hl⟩ | rfl
  · have hq : (((l.length : Int) + 1) == 1) = false := beq_eq_false_iff_ne.2 hl
    clear hl
    go_enter Tryd.func3, Tryd.ntmps3
    go_wp2_with fail
    refine CF.out.mono ?_
    rintro e wx ⟨rfl, hwx⟩
    obtain rfl := hwx.symm
    go_wp2_with fail
    refine CE.out.mono ?_
    rintro e w1 ⟨rfl, hb1⟩
    have HB1 := Lib.hid hb1
    have cz1 := (HB1.out.cell (World.block_lt_of_cell? _ _ CY2.out)).trans CY2.out
    clear hb1 cy
    go_wp2_with fail
    refine (CN.out _ HB1.out).mono ?_
    rintro e w2 ⟨rfl, hw2⟩
    obtain rfl := hw2.symm
    go_wp2_with fail
    refine (CY.out _).mono ?_
    rintro e w3 ⟨rfl, hb3⟩
    have HB3 := Lib.hid (chain HB1.out hb3)
    clear hb3
    go_wp2_with fail
    refine (HSX.out _ HB3.out).mono ?_
    rintro e w4 ⟨rfl, hb4⟩
    have HB4 := Lib.hid (chain HB3.out hb4)
    clear hb4
    go_wp2_with fail
    refine (HC0.out _ (HS.out.below HB4.out)).mono ?_
    rintro e w5 ⟨rfl, hb5⟩
    have HB5 := Lib.hid (chain HB4.out hb5)
    clear hb5
    go_wp2_with fail
    refine (HS0.out _ HB5.out).mono ?_
    rintro e w6 ⟨rfl, hb6⟩
    have HB6 := Lib.hid (chain HB5.out hb6)
    clear hb6
    go_wp2_with fail
    refine (HC1.out _ (HS.out.below HB6.out)).mono ?_
    rintro e w7 ⟨rfl, hb7⟩
    have HB7 := Lib.hid (chain HB6.out hb7)
    clear hb7
    go_wp2_with fail
    refine (HS1.out _ HB7.out).mono ?_
    rintro e w8 ⟨rfl, hb8⟩
    have HB8 := Lib.hid (chain HB7.out hb8)
    clear hb8
    go_wp2_with fail
    refine (HC2.out _ (HS.out.below HB8.out)).mono ?_
    rintro e w9 ⟨rfl, hb9⟩
    have HB9 := Lib.hid (chain HB8.out hb9)
    clear hb9
    go_wp2_with fail
    refine (HS2.out _ HB9.out).mono ?_
    rintro e w10 ⟨rfl, hb10⟩
    have HB10 := Lib.hid (chain HB9.out hb10)
    clear hb10
    go_wp2_with fail
    refine (HC3.out _ (HS.out.below HB10.out)).mono ?_
    rintro e w11 ⟨rfl, hb11⟩
    have HB11 := Lib.hid (chain HB10.out hb11)
    clear hb11
    go_wp2_with fail
    refine (HS3.out _ HB11.out).mono ?_
    rintro e w12 ⟨rfl, hb12⟩
    have HB12 := Lib.hid (chain HB11.out hb12)
    clear hb12
    go_wp2_with fail
    refine (HC5.out _ (HS.out.below HB12.out)).mono ?_
    rintro e w13 ⟨rfl, hb13⟩
    have HB13 := Lib.hid (chain HB12.out hb13)
    clear hb13
    go_wp2_with fail
    refine (HS5.out _ HB13.out).mono ?_
    rintro e w14 ⟨rfl, hb14⟩
    have HB14 := Lib.hid (chain HB13.out hb14)
    clear hb14
    go_wp2_with fail
    refine (HC9.out _ (HS.out.below HB14.out)).mono ?_
    rintro e w15 ⟨rfl, hb15⟩
    have HB15 := Lib.hid (chain HB14.out hb15)
    clear hb15
    go_wp2_with fail
    refine (HS5.out _ HB15.out).mono ?_
    rintro e w16 ⟨rfl, hb16⟩
    have HB16 := Lib.hid (chain HB15.out hb16)
    clear hb16
    go_wp2_with fail
    refine (HCU.out _).mono ?_
    rintro e w17 ⟨rfl, hb17⟩
    have HB17 := Lib.hid (chain HB16.out hb17)
    clear hb17
    go_wp2_with fail
    refine (HC6.out _ (HS.out.below HB17.out)).mono ?_
    rintro e w18 ⟨rfl, hb18⟩
    have HB18 := Lib.hid (chain HB17.out hb18)
    clear hb18
    go_wp2_with fail
    refine (HS6.out _ HB18.out).mono ?_
    rintro e w19 ⟨rfl, hb19⟩
    have HB19 := Lib.hid (chain HB18.out hb19)
    clear hb19
    go_wp2_with fail
    refine (HC7.out _ (HS.out.below HB19.out)).mono ?_
    rintro e w20 ⟨rfl, hb20⟩
    have HB20 := Lib.hid (chain HB19.out hb20)
    clear hb20
    go_wp2_with fail
    refine (HS7.out _ HB20.out).mono ?_
    rintro e w21 ⟨rfl, hb21⟩
    have HB21 := Lib.hid (chain HB20.out hb21)
    clear hb21
    go_wp2
    go_ret
    exact ⟨ret_bool (by simp), HB21.out⟩
  ·
    go_enter Tryd.func3, Tryd.ntmps3
    go_wp2_with fail
    refine CF.out.mono ?_
    rintro e wx ⟨rfl, hwx⟩
    obtain rfl := hwx.symm
    go_wp2_with fail
    refine CE.out.mono ?_
    rintro e w1 ⟨rfl, hb1⟩
    have HB1 := Lib.hid hb1
    have cz1 := (HB1.out.cell (World.block_lt_of_cell? _ _ CY2.out)).trans CY2.out
    clear hb1 cy
    go_wp2_with fail
    refine (CN.out _ HB1.out).mono ?_
    rintro e w2 ⟨rfl, hw2⟩
    obtain rfl := hw2.symm
    go_wp2_with fail
    refine (CY.out _).mono ?_
    rintro e w3 ⟨rfl, hb3⟩
    have HB3 := Lib.hid (chain HB1.out hb3)
    clear hb3
    go_wp2_with fail
    refine (HSX.out _ HB3.out).mono ?_
    rintro e w4 ⟨rfl, hb4⟩
    have HB4 := Lib.hid (chain HB3.out hb4)
    clear hb4
    go_wp2_with fail
    refine (HC0.out _ (HS.out.below HB4.out)).mono ?_
    rintro e w5 ⟨rfl, hb5⟩
    have HB5 := Lib.hid (chain HB4.out hb5)
    clear hb5
    go_wp2_with fail
    refine (HS0.out _ HB5.out).mono ?_
    rintro e w6 ⟨rfl, hb6⟩
    have HB6 := Lib.hid (chain HB5.out hb6)
    clear hb6
    go_wp2_with fail
    refine (HC1.out _ (HS.out.below HB6.out)).mono ?_
    rintro e w7 ⟨rfl, hb7⟩
    have HB7 := Lib.hid (chain HB6.out hb7)
    clear hb7
    go_wp2_with fail
    refine (HS1.out _ HB7.out).mono ?_
    rintro e w8 ⟨rfl, hb8⟩
    have HB8 := Lib.hid (chain HB7.out hb8)
    clear hb8
    go_wp2_with fail
    refine (HC2.out _ (HS.out.below HB8.out)).mono ?_
    rintro e w9 ⟨rfl, hb9⟩
    have HB9 := Lib.hid (chain HB8.out hb9)
    clear hb9
    go_wp2_with fail
    refine (HS2.out _ HB9.out).mono ?_
    rintro e w10 ⟨rfl, hb10⟩
    have HB10 := Lib.hid (chain HB9.out hb10)
    clear hb10
    go_wp2_with fail
    refine (HC3.out _ (HS.out.below HB10.out)).mono ?_
    rintro e w11 ⟨rfl, hb11⟩
    have HB11 := Lib.hid (chain HB10.out hb11)
    clear hb11
    go_wp2_with fail
    refine (HS3.out _ HB11.out).mono ?_
    rintro e w12 ⟨rfl, hb12⟩
    have HB12 := Lib.hid (chain HB11.out hb12)
    clear hb12
    go_wp2_with fail
    refine (HC5.out _ (HS.out.below HB12.out)).mono ?_
    rintro e w13 ⟨rfl, hb13⟩
    have HB13 := Lib.hid (chain HB12.out hb13)
    clear hb13
    go_wp2_with fail
    refine (HS5.out _ HB13.out).mono ?_
    rintro e w14 ⟨rfl, hb14⟩
    have HB14 := Lib.hid (chain HB13.out hb14)
    clear hb14
    go_wp2_with fail
    refine (HC9.out _ (HS.out.below HB14.out)).mono ?_
    rintro e w15 ⟨rfl, hb15⟩
    have HB15 := Lib.hid (chain HB14.out hb15)
    clear hb15
    go_wp2_with fail
    refine (HS5.out _ HB15.out).mono ?_
    rintro e w16 ⟨rfl, hb16⟩
    have HB16 := Lib.hid (chain HB15.out hb16)
    clear hb16
    go_wp2_with fail
    refine (HCU.out _).mono ?_
    rintro e w17 ⟨rfl, hb17⟩
    have HB17 := Lib.hid (chain HB16.out hb17)
    clear hb17
    go_wp2_with fail
    refine (HC6.out _ (HS.out.below HB17.out)).mono ?_
    rintro e w18 ⟨rfl, hb18⟩
    have HB18 := Lib.hid (chain HB17.out hb18)
    clear hb18
    go_wp2_with fail
    refine (HS6.out _ HB18.out).mono ?_
    rintro e w19 ⟨rfl, hb19⟩
    have HB19 := Lib.hid (chain HB18.out hb19)
    clear hb19
    go_wp2_with fail
    refine (HC7.out _ (HS.out.below HB19.out)).mono ?_
    rintro e w20 ⟨rfl, hb20⟩
    have HB20 := Lib.hid (chain HB19.out hb20)
    clear hb20
    go_wp2_with fail
    refine (HS7.out _ HB20.out).mono ?_
    rintro e w21 ⟨rfl, hb21⟩
    have HB21 := Lib.hid (chain HB20.out hb21)
    clear hb21
    go_wp2
    go_ret
    exact ⟨ret_bool (by simp), HB21.out⟩

end Go.Proofs.YthanbbflemkomaaDoor
