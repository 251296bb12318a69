/- Helpers of the law on joined texts: which texts are looked at. Condition: their length. -/
import Derived.Test.YtdfhidnhkeapbaaDoorJEnv
namespace Go.Proofs.YtdfhidnhkeapbaaDoor
open Go.RowKit U8
open Go.Lib hiding intOf

def hasB (l : List UInt8) (c : Nat) : Bool := l.any fun x => decide (x.toNat = c)
set_option maxHeartbeats 800000 in
set_option maxRecDepth 100000 in
theorem has_any (l : List UInt8) (c : Nat) (w : World) (hl : l.length ≤ 2147483647) :
    Calls Tryd.prog 16 #[.string (txt l), .int .u8 c] w fun e w' => e = .returned (.bool (hasB l c)) ∧ w' = w := by
  obtain ⟨R, hR⟩ : ∃ R, hasB l c = R := ⟨_, rfl⟩
  rw [hR]
  have HR : Hid (R = hasB (l.drop 0) c) := hR.symm
  have hts := txt_size l
  clear hR
  go_enter Tryd.func16, Tryd.ntmps16
  go_wp2
  go_loopg [5] (l.length + 1) (fun gk v5 wr => ∃ k : Nat, v5 = .int .i64 k ∧ k ≤ l.length ∧ l.length - k < gk ∧ Hid (R = hasB (l.drop k) c) ∧ wr = w)
  case atStart => exact ⟨0, rfl, by omega, by omega, HR.out, rfl⟩
  case round =>
    clear HR
    obtain ⟨k, rfl, hk, hg, HR, hwr⟩ := hrel
    obtain rfl := hwr.symm
    by_cases hlt : k < l.length
    · obtain ⟨gk, rfl⟩ : ∃ m, gk = m + 1 := ⟨gk - 1, by omega⟩
      have hd := List.drop_eq_getElem_cons hlt
      have hgx := List.getElem?_eq_getElem hlt
      generalize l[k] = x at hd hgx
      have hix := run_byte l k x hgx w
      have hs : hasB (l.drop k) c = (decide (x.toNat = c) || hasB (l.drop (k + 1)) c) := by rw [hd]; rfl
      obtain ⟨y, hy⟩ : ∃ y, x.toNat = y := ⟨_, rfl⟩
      rw [hy] at hix hs
      clear hd hgx hy
      by_cases hyc : y = c
      · have HF : Hid (R = true) := by show _ = _; rw [HR.out, hs, decide_eq_true hyc]; rfl
        subst hyc
        clear HR hs
        go_wp2
        go_ret
        exact ⟨by rw [HF.out]; rfl, rfl⟩
      · have HF : Hid (R = hasB (l.drop (k + 1)) c) := by show _ = _; rw [HR.out, hs, decide_eq_false hyc]; rfl
        have hz : ¬ (y : Int) = c := by omega
        clear HR hs
        go_wp2
        go_roundg gk
        case rel => exact ⟨k + 1, by go_num, by omega, by omega, HF.out, rfl⟩
        case measure => omega
    · obtain rfl : k = l.length := by omega
      have HF : Hid (R = false) := by show _ = _; rw [HR.out, List.drop_length]; rfl
      clear HR
      go_wp2
      go_ret
      exact ⟨by rw [HF.out]; rfl, rfl⟩
def meanB (l : List UInt8) : Bool := hasB l 36 || hasB l 39 || hasB l 34 || hasB l 13
set_option maxHeartbeats 6400000 in
set_option maxRecDepth 100000 in
theorem mean_any (l : List UInt8) (w : World) (hl : l.length ≤ 2147483647) :
    Calls Tryd.prog 8 #[.string (txt l)] w fun e w' => e = .returned (.bool (meanB l)) ∧ w' = w := by
  have c1 := has_any l 36 w hl
  have c2 := has_any l 39 w hl
  have c3 := has_any l 34 w hl
  have c4 := has_any l 13 w hl
  unfold meanB
  have C1 : Hid (Calls Tryd.prog 16 #[.string (txt l), .int .u8 36] w fun e w' => e = .returned (.bool (hasB l 36)) ∧ w' = w) := c1
  have C2 : Hid (Calls Tryd.prog 16 #[.string (txt l), .int .u8 39] w fun e w' => e = .returned (.bool (hasB l 39)) ∧ w' = w) := c2
  have C3 : Hid (Calls Tryd.prog 16 #[.string (txt l), .int .u8 34] w fun e w' => e = .returned (.bool (hasB l 34)) ∧ w' = w) := c3
  have C4 : Hid (Calls Tryd.prog 16 #[.string (txt l), .int .u8 13] w fun e w' => e = .returned (.bool (hasB l 13)) ∧ w' = w) := c4
  clear c1 c2 c3 c4
  generalize hasB l 36 = b1 at *
  generalize hasB l 39 = b2 at *
  generalize hasB l 34 = b3 at *
  generalize hasB l 13 = b4 at *
  go_enter Tryd.func8, Tryd.ntmps8
  go_wp2_with fail
  refine C1.out.mono ?_
  rintro e wd ⟨rfl, hwd⟩
  obtain rfl := hwd.symm
  cases b1 with
  | true =>
    go_wp2
    go_ret
    exact ⟨rfl, rfl⟩
  | false =>
    go_wp2_with fail
    refine C2.out.mono ?_
    rintro e wd ⟨rfl, hwd⟩
    obtain rfl := hwd.symm
    cases b2 with
    | true =>
      go_wp2
      go_ret
      exact ⟨rfl, rfl⟩
    | false =>
      go_wp2_with fail
      refine C3.out.mono ?_
      rintro e wd ⟨rfl, hwd⟩
      obtain rfl := hwd.symm
      cases b3 with
      | true =>
        go_wp2
        go_ret
        exact ⟨rfl, rfl⟩
      | false =>
        go_wp2_with fail
        refine C4.out.mono ?_
        rintro e wd ⟨rfl, hwd⟩
        obtain rfl := hwd.symm
        cases b4 with
        | true =>
          go_wp2
          go_ret
          exact ⟨rfl, rfl⟩
        | false =>
          go_wp2
          go_ret
          exact ⟨rfl, rfl⟩
def plB (l : List UInt8) : Bool := l.all (fun x => decide (x.toNat < 128)) && decide (l.length ≤ 4096)
set_option maxHeartbeats 800000 in
set_option maxRecDepth 100000 in
theorem plain_any (l : List UInt8) (w : World) (hl : l.length ≤ 2147483647) :
    Calls Tryd.prog 6 #[.string (txt l)] w fun e w' => e = .returned (.bool (plB l)) ∧ w' = w := by
  have hts := txt_size l
  go_enter Tryd.func6, Tryd.ntmps6
  go_wp2
  go_loopg [3] (l.length + 1) (fun gk v3 wr => ∃ k : Nat, v3 = .int .i64 k ∧ k ≤ l.length ∧ l.length - k < gk ∧ Hid ((l.take k).all (fun x => decide (x.toNat < 128)) = true) ∧ wr = w)
  case atStart => exact ⟨0, rfl, by omega, by omega, rfl, rfl⟩
  case round =>
    obtain ⟨k, rfl, hk, hg, HA, hwr⟩ := hrel
    obtain rfl := hwr.symm
    by_cases hlt : k < l.length
    · obtain ⟨gk, rfl⟩ : ∃ m, gk = m + 1 := ⟨gk - 1, by omega⟩
      have htk := List.take_succ_eq_append_getElem hlt
      have hgx := List.getElem?_eq_getElem hlt
      have hmem := List.getElem_mem hlt
      generalize l[k] = x at htk hgx hmem
      have hix := run_byte l k x hgx w
      by_cases h128 : x.toNat < 128
      · have HA2 : Hid ((l.take (k + 1)).all (fun x => decide (x.toNat < 128)) = true) := by
          show _ = _
          rw [htk, List.all_append, HA.out]
          simp [h128]
        obtain ⟨y, hy⟩ : ∃ y, x.toNat = y := ⟨_, rfl⟩
        rw [hy] at hix h128
        clear htk hgx hmem hy HA
        go_wp2
        go_roundg gk
        case rel => exact ⟨k + 1, by go_num, by omega, by omega, HA2.out, rfl⟩
        case measure => omega
      · have HF : Hid (plB l = false) := by
          show _ = _
          unfold plB
          have : l.all (fun x => decide (x.toNat < 128)) = false := by
            rw [List.all_eq_false]
            exact ⟨x, hmem, by simpa using h128⟩
          rw [this]; rfl
        obtain ⟨y, hy⟩ : ∃ y, x.toNat = y := ⟨_, rfl⟩
        rw [hy] at hix h128
        have h128z : (128 : Int) ≤ y := by omega
        clear htk hgx hmem hy HA
        go_wp2
        go_ret
        exact ⟨by rw [HF.out]; rfl, rfl⟩
    · obtain rfl : k = l.length := by omega
      have hA := HA.out
      rw [List.take_length] at hA
      by_cases h4 : l.length ≤ 4096
      · have HF : Hid (plB l = true) := by show _ = _; unfold plB; rw [hA, decide_eq_true h4]; rfl
        have h4d : decide ((4096 : Int) < l.length) = false := decide_eq_false (by omega)
        clear HA hA
        go_wp2_with go_in
        go_ret
        exact ⟨by rw [HF.out]; rfl, rfl⟩
      · have HF : Hid (plB l = false) := by show _ = _; unfold plB; rw [decide_eq_false h4, Bool.and_false]
        have h4d : decide ((4096 : Int) < l.length) = true := decide_eq_true (by omega)
        clear HA hA
        go_wp2_with go_in
        go_ret
        exact ⟨by rw [HF.out]; rfl, rfl⟩
def pfR : List UInt8 → Bool → Bool
  | [], b => b
  | c :: t, b => if c == 10 then b else if c == 61 || c == 58 then true else pfR t (b && (c == 32 || c == 9))
theorem pfR_eq : ∀ (r : List UInt8) (b : Bool), pfR r b = (sepB (r.takeWhile notNl) || (b && (r.takeWhile notNl).all fun c => c == 32 || c == 9))
  | [], b => by cases b <;> rfl
  | c :: t, b => by
    unfold pfR
    by_cases h10 : c = 10
    · subst h10
      cases b <;> rfl
    · have e : notNl c = true := by unfold notNl; simpa using h10
      have e2 : (c == 10) = false := beq_eq_false_iff_ne.2 h10
      rw [List.takeWhile_cons, e, if_pos rfl, e2, pfR_eq t]
      simp only [Bool.false_eq_true, if_false]
      unfold sepB
      rw [List.any_cons, List.all_cons]
      cases h : (c == 61 || c == 58) with
      | true => rfl
      | false =>
        simp only [Bool.false_eq_true, if_false, Bool.false_or]
        cases (List.any (List.takeWhile notNl t) fun c => c == 61 || c == 58) <;> cases b <;> cases (c == 32 || c == 9) <;> rfl
theorem pfR_parted (l : List UInt8) : partedB l = pfR l.reverse true := by rw [pfR_eq]; unfold partedB lastB; simp
end Go.Proofs.YtdfhidnhkeapbaaDoor
