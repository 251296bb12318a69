/- The law FnSuccessorFrame: its walk. -/
import Derived.Test.YtngehfjcfiehlaaSucc
import Derived.Test.YtngehfjcfiehlaaSTests
namespace Go.Proofs.Ytngehfjcfiehlaa
open Go.RowKit U8
open Go.Lib hiding intOf

theorem few3_any (a b c : ByteArray) (g : Nat) (w : World) (ha : a.size ≤ 2147483647) (hb : b.size ≤ 2147483647) (hc : c.size ≤ 2147483647)
    (h0 : w.cell? ⟨g, 0, none⟩ = some (.string a)) (h1 : w.cell? ⟨g, 1, none⟩ = some (.string b)) (h2 : w.cell? ⟨g, 2, none⟩ = some (.string c)) :
    Calls Try.prog 6 #[.slice (some ⟨g, 0, none⟩) 3 3] w fun e w' => e = .returned (.bool (decide (a.size + b.size + c.size ≤ 397))) ∧ w' = w := by
  have cS := size_any [a, b, c] g 3 w (by simp) (by simp; omega) (fun j x hx => by
    match j, hx with
    | 0, hx => simp at hx; subst hx; exact h0
    | 1, hx => simp at hx; subst hx; exact h1
    | 2, hx => simp at hx; subst hx; exact h2)
  have e : (([a, b, c] : List ByteArray).length : Int) + ((([a, b, c] : List ByteArray).map ByteArray.size).sum : Nat) = 3 + ((a.size + b.size + c.size : Nat) : Int) := by simp; omega
  rw [e] at cS
  obtain ⟨z, hz⟩ : ∃ z, a.size + b.size + c.size = z := ⟨_, rfl⟩
  rw [hz] at cS ⊢
  have hz1 : z ≤ 10000000000 := by omega
  clear hz e
  go_enter Try.func6, Try.ntmps6
  go_wp2_with (go_at_call 11; refine cS.mono ?_; rintro e w ⟨rfl, rfl⟩)
  go_ret
  exact ⟨ret_bool (by simp; omega), rfl⟩

theorem implSucc_marks (p m : List Nat) (x : Nat) (w : World) (hs : Scs (p ++ x :: m)) (hl : (p ++ x :: m).length ≤ 100000) (hx : plainInc x) (hm : ∀ y ∈ m, mark y) :
    Calls Try.prog 5 #[.string (txt (enc (p ++ x :: m)))] w fun e w' => e = .returned (.string (txt (enc (p ++ (x + 1) :: m)))) ∧ Below w.heap.size w w' := by
  go_enter Try.func5, Try.ntmps5
  go_wp2_with (go_at_call 10; refine (succ_marks p m x _ hs hl hx hm).mono ?_; rintro e w' ⟨rfl, hb⟩)
  go_ret
  exact ⟨rfl, hb⟩
theorem succ_koala (w : World) :
    Calls Try.prog 5 #[.string ⟨#[60, 60, 107, 111, 97, 108, 97, 62, 62]⟩] w fun e w' => e = .returned (.string ⟨#[60, 60, 107, 111, 97, 108, 98, 62, 62]⟩) ∧ Below w.heap.size w w' :=
  implSucc_marks [60, 60, 107, 111, 97, 108] [62, 62] 97 w (fun x hx => by simp at hx; unfold Sc; omega) (by decide) (by unfold plainInc; omega) (fun y hy => by simp at hy; unfold mark; omega)

theorem bytes_enc (l : List UInt8) (h : ∀ b ∈ l, b.toNat < 128) : enc (l.map UInt8.toNat) = l := by
  have ha : asc (l.map UInt8.toNat) := fun r hr => by
    obtain ⟨b, hb, rfl⟩ := List.mem_map.1 hr
    exact h b hb
  rw [enc_asc ha, List.map_map]
  exact (List.map_congr_left (fun b _ => by simp)).trans (List.map_id _)
theorem mrk_of {l : List UInt8} (h : mrkB l = true) : ∀ b ∈ l, mark b.toNat := fun b hb => by
  unfold mrkB at h
  rw [List.all_eq_true] at h
  have := h b hb
  unfold letN at this
  simp at this
  unfold mark
  omega
theorem U8.Scs.cons_ {r : Nat} {rs : List Nat} (h : Scs rs) (k : Sc r) : Scs (r :: rs) := Scs.cons k h
theorem enc_le4' : ∀ l : List Nat, (enc l).length ≤ 4 * l.length
  | [] => by simp [enc]
  | r :: l => by
    have h1 := enc_le4' l
    have h2 := enc1_le r
    rw [enc_cons, List.length_append, List.length_cons]; omega

set_option maxHeartbeats 3200000 in
set_option maxRecDepth 100000 in
theorem law_frame (a s b : ByteArray) (w : World) (haz : a.size ≤ 140737488351232) (hsz : s.size ≤ 140737488351232) (hbz : b.size ≤ 140737488351232) :
    Calls Try.prog 3 #[.string a, .string s, .string b] w fun e w' => e = .returned (.bool true) ∧ Below w.heap.size w w' := by
  by_cases hbig : 2147483647 < a.size
  · go_enter Try.func3, Try.ntmps3
    go_wp2
    go_ret
    exact ⟨rfl, Below.refl _ _⟩
  by_cases hbig2 : 2147483647 < s.size
  · go_enter Try.func3, Try.ntmps3
    go_wp2
    go_ret
    exact ⟨rfl, Below.refl _ _⟩
  by_cases hbig3 : 2147483647 < b.size
  · go_enter Try.func3, Try.ntmps3
    go_wp2
    go_ret
    exact ⟨rfl, Below.refl _ _⟩
  have hle1 : a.size ≤ 2147483647 := by omega
  have hle2 : s.size ≤ 2147483647 := by omega
  have hle3 : b.size ≤ 2147483647 := by omega
  clear hbig hbig2 hbig3 haz hsz hbz
  have cF := Lib.hid fun (W : World) => few3_any a s b W.heap.size (W.alloc (.cells #[.string a, .string s, .string b] 9)) hle1 hle2 hle3 (by simp [go_sem]) (by simp [go_sem]) (by simp [go_sem])
  by_cases hf : a.size + s.size + b.size ≤ 397
  rotate_left
  · rw [decide_eq_false hf] at cF
    go_enter Try.func3, Try.ntmps3
    go_wp2_with fail
    refine (succ_koala _).mono ?_
    rintro e w1 ⟨rfl, hb1⟩
    go_wp2_with (first
      | (go_at_call 6; refine (cF.out _).mono ?_; rintro e w2 ⟨rfl, rfl⟩))
    go_ret
    exact ⟨rfl, hb1.alloc hb1.size _⟩
  rw [decide_eq_true hf] at cF
  obtain ⟨A, rfl⟩ : ∃ l, a = txt l := ⟨a.data.toList, (list_txt a).symm⟩
  obtain ⟨L, rfl⟩ : ∃ l, s = txt l := ⟨s.data.toList, (list_txt s).symm⟩
  obtain ⟨B, rfl⟩ : ∃ l, b = txt l := ⟨b.data.toList, (list_txt b).symm⟩
  have hAz : A.length ≤ 397 := by rw [txt_size, txt_size, txt_size] at hf; omega
  have hLz : L.length ≤ 397 := by rw [txt_size, txt_size, txt_size] at hf; omega
  have hBz : B.length ≤ 397 := by rw [txt_size, txt_size, txt_size] at hf; omega
  have cS := Lib.hid fun W => simple_any L W (by omega)
  have cA := Lib.hid fun W => marks_any A W (by omega)
  have cB := Lib.hid fun W => marks_any B W (by omega)
  obtain ⟨sb, hsb⟩ : ∃ q, simB L = q := ⟨_, rfl⟩
  rw [hsb] at cS
  cases sb with
  | false =>
    clear hsb
    go_enter Try.func3, Try.ntmps3
    go_wp2_with fail
    refine (succ_koala _).mono ?_
    rintro e w1 ⟨rfl, hb1⟩
    go_wp2_with (first
      | (go_at_call 6; refine (cF.out _).mono ?_; rintro e w2 ⟨rfl, rfl⟩)
      | (go_at_call 7; refine (cS.out _).mono ?_; rintro e w2 ⟨rfl, rfl⟩))
    go_ret
    exact ⟨rfl, hb1.alloc hb1.size _⟩
  | true =>
    have HSB := Lib.hid hsb
    clear hsb
    obtain ⟨Q, y, rfl⟩ : ∃ Q y, L = Q ++ [y] := by
      have h := HSB.out
      unfold simB at h
      simp only [Bool.and_eq_true, decide_eq_true_eq] at h
      exact ⟨L.dropLast, L.getLast (by intro e; rw [e] at h; simp at h), (List.dropLast_concat_getLast _).symm⟩
    obtain ⟨x, hx⟩ : ∃ x, y.toNat = x := ⟨_, rfl⟩
    have hix : ∀ W, (Instr.index 9 (.string (txt (Q ++ [y]))) (.int .i64 (((txt (Q ++ [y])).size : Int) - 1))).run Try.prog W = .ok (.int .u8 (x : Int)) W := fun W => by
      have := run_byte (Q ++ [y]) Q.length y (by simp) W
      rw [hx] at this
      rw [txt_size, List.length_append, show ((Q.length + [y].length : Nat) : Int) - 1 = (Q.length : Int) by simp]
      exact this
    have hall : ∀ z ∈ Q ++ [y], letN z.toNat = true ∨ (48 ≤ z.toNat ∧ z.toNat ≤ 57) := fun z hz => by
      have h := HSB.out
      unfold simB at h
      simp only [Bool.and_eq_true, List.all_eq_true, Bool.or_eq_true, decide_eq_true_eq] at h
      exact h.1 z hz
    have hxk := hall y (by simp)
    rw [hx] at hxk
    have HALL := Lib.hid hall
    have HX := Lib.hid hx
    clear hall hx
    by_cases h122 : x = 122
    · subst h122
      clear hxk
      go_enter Try.func3, Try.ntmps3
      go_wp2_with fail
      refine (succ_koala _).mono ?_
      rintro e w1 ⟨rfl, hb1⟩
      go_wp2_with (first
        | (go_at_call 6; refine (cF.out _).mono ?_; rintro e w2 ⟨rfl, rfl⟩)
        | (go_at_call 7; refine (cS.out _).mono ?_; rintro e w2 ⟨rfl, rfl⟩))
      go_ret
      exact ⟨rfl, hb1.alloc hb1.size _⟩
    by_cases h90 : x = 90
    · subst h90
      clear hxk
      go_enter Try.func3, Try.ntmps3
      go_wp2_with fail
      refine (succ_koala _).mono ?_
      rintro e w1 ⟨rfl, hb1⟩
      go_wp2_with (first
        | (go_at_call 6; refine (cF.out _).mono ?_; rintro e w2 ⟨rfl, rfl⟩)
        | (go_at_call 7; refine (cS.out _).mono ?_; rintro e w2 ⟨rfl, rfl⟩))
      go_ret
      exact ⟨rfl, hb1.alloc hb1.size _⟩
    by_cases h57 : x = 57
    · subst h57
      clear hxk
      go_enter Try.func3, Try.ntmps3
      go_wp2_with fail
      refine (succ_koala _).mono ?_
      rintro e w1 ⟨rfl, hb1⟩
      go_wp2_with (first
        | (go_at_call 6; refine (cF.out _).mono ?_; rintro e w2 ⟨rfl, rfl⟩)
        | (go_at_call 7; refine (cS.out _).mono ?_; rintro e w2 ⟨rfl, rfl⟩))
      go_ret
      exact ⟨rfl, hb1.alloc hb1.size _⟩
    have hinc : plainInc x := by
      unfold letN at hxk
      unfold plainInc
      rw [decide_eq_true_eq] at hxk
      omega
    have h1 : ((x : Int) == 122) = false := by simp; omega
    have h2 : ((x : Int) == 90) = false := by simp; omega
    have h3 : ((x : Int) == 57) = false := by simp; omega
    clear h122 h90 h57 hxk
    obtain ⟨ma, hma⟩ : ∃ q, mrkB A = q := ⟨_, rfl⟩
    rw [hma] at cA
    cases ma with
    | false =>
      clear hma
      go_enter Try.func3, Try.ntmps3
      go_wp2_with fail
      refine (succ_koala _).mono ?_
      rintro e w1 ⟨rfl, hb1⟩
      go_wp2_with (first
        | (go_at_call 6; refine (cF.out _).mono ?_; rintro e w2 ⟨rfl, rfl⟩)
        | (go_at_call 7; refine (cS.out _).mono ?_; rintro e w2 ⟨rfl, rfl⟩)
        | (go_at_call_of 8 (Value.string (txt A)); refine (cA.out _).mono ?_; rintro e w2 ⟨rfl, rfl⟩))
      go_ret
      exact ⟨rfl, hb1.alloc hb1.size _⟩
    | true =>
      obtain ⟨mb, hmb⟩ : ∃ q, mrkB B = q := ⟨_, rfl⟩
      rw [hmb] at cB
      cases mb with
      | false =>
        clear hmb
        go_enter Try.func3, Try.ntmps3
        go_wp2_with fail
        refine (succ_koala _).mono ?_
        rintro e w1 ⟨rfl, hb1⟩
        go_wp2_with (first
          | (go_at_call 6; refine (cF.out _).mono ?_; rintro e w2 ⟨rfl, rfl⟩)
          | (go_at_call 7; refine (cS.out _).mono ?_; rintro e w2 ⟨rfl, rfl⟩)
          | (go_at_call_of 8 (Value.string (txt A)); refine (cA.out _).mono ?_; rintro e w2 ⟨rfl, rfl⟩)
          | (go_at_call 8; refine (cB.out _).mono ?_; rintro e w2 ⟨rfl, rfl⟩))
        go_ret
        exact ⟨rfl, hb1.alloc hb1.size _⟩
      | true =>
        have hmkA := mrk_of hma
        have hmkB := mrk_of hmb
        have hsi := HALL.out
        clear hma hmb HSB HALL
        have hAl : ∀ b ∈ A, b.toNat < 128 := fun b hb => by have := hmkA b hb; unfold mark at this; omega
        have hBl : ∀ b ∈ B, b.toNat < 128 := fun b hb => by have := hmkB b hb; unfold mark at this; omega
        have hLl : ∀ b ∈ Q ++ [y], b.toNat < 128 := fun b hb => by
          rcases hsi b hb with h | h
          · unfold letN at h; rw [decide_eq_true_eq] at h; omega
          · omega
        have hx128 : x < 128 := by have := hLl y (by simp); rw [HX.out] at this; exact this
        have eA := bytes_enc A hAl
        have eB := bytes_enc B hBl
        have eL : enc (Q.map UInt8.toNat ++ x :: []) = Q ++ [y] := by
          have := bytes_enc (Q ++ [y]) hLl
          rw [List.map_append, List.map_cons, List.map_nil, HX.out] at this
          exact this
        have eT : enc ((A.map UInt8.toNat ++ Q.map UInt8.toNat) ++ x :: B.map UInt8.toNat) = A ++ (Q ++ [y]) ++ B := by
          rw [show (A.map UInt8.toNat ++ Q.map UInt8.toNat) ++ x :: B.map UInt8.toNat = A.map UInt8.toNat ++ (Q.map UInt8.toNat ++ x :: []) ++ B.map UInt8.toNat by simp, enc_append, enc_append, eL, eA, eB]
        have eR : enc ((A.map UInt8.toNat ++ Q.map UInt8.toNat) ++ (x + 1) :: B.map UInt8.toNat) = A ++ enc (Q.map UInt8.toNat ++ (x + 1) :: []) ++ B := by
          rw [show (A.map UInt8.toNat ++ Q.map UInt8.toNat) ++ (x + 1) :: B.map UInt8.toNat = A.map UInt8.toNat ++ (Q.map UInt8.toNat ++ (x + 1) :: []) ++ B.map UInt8.toNat by simp, enc_append, enc_append, eA, eB]
        have hasA : Scs (A.map UInt8.toNat) := fun r hr => by obtain ⟨b, hb, rfl⟩ := List.mem_map.1 hr; have := hAl b hb; unfold Sc; omega
        have hasB : Scs (B.map UInt8.toNat) := fun r hr => by obtain ⟨b, hb, rfl⟩ := List.mem_map.1 hr; have := hBl b hb; unfold Sc; omega
        have hasQ : Scs (Q.map UInt8.toNat) := fun r hr => by obtain ⟨b, hb, rfl⟩ := List.mem_map.1 hr; have := hLl b (by simp [hb]); unfold Sc; omega
        have hscx : Sc x := by unfold Sc; omega
        have hQl : Q.length ≤ 397 := by rw [List.length_append] at hLz; omega
        have cI1 := Lib.hid fun W => implSucc_marks (A.map UInt8.toNat ++ Q.map UInt8.toNat) (B.map UInt8.toNat) x W ((hasA.app hasQ).app (Scs.cons hscx hasB)) (by simp; omega) hinc (fun z hz => by obtain ⟨b, hb, rfl⟩ := List.mem_map.1 hz; exact hmkB b hb)
        have cI2 := Lib.hid fun W => implSucc_marks (Q.map UInt8.toNat) [] x W (hasQ.app (Scs.cons hscx Scs.nil)) (by simp; omega) hinc (fun z hz => by cases hz)
        rw [eT, eR] at cI1
        rw [eL] at cI2
        have hR : (enc (Q.map UInt8.toNat ++ (x + 1) :: [])).length ≤ 2000 := by
          have h := enc_le4' (Q.map UInt8.toNat ++ (x + 1) :: [])
          simp at h
          omega
        obtain ⟨R, hRe⟩ : ∃ R, enc (Q.map UInt8.toNat ++ (x + 1) :: []) = R := ⟨_, rfl⟩
        rw [hRe] at cI1 cI2 hR
        have n1 : (txt A).size + (txt (Q ++ [y])).size ≤ 1000000 := by rw [txt_size, txt_size]; omega
        have n2 : (txt (A ++ (Q ++ [y]))).size + (txt B).size ≤ 1000000 := by rw [txt_size, txt_size, List.length_append]; omega
        have n3 : (txt A).size + (txt R).size ≤ 1000000 := by rw [txt_size, txt_size]; omega
        have n4 : (txt (A ++ R)).size + (txt B).size ≤ 1000000 := by rw [txt_size, txt_size, List.length_append]; omega
        have p1 := txt_append A (Q ++ [y])
        have p2 := txt_append (A ++ (Q ++ [y])) B
        have p3 := txt_append A R
        have p4 := txt_append (A ++ R) B
        clear hRe eA eB eL eT eR hsi hmkA hmkB hAl hBl hLl hx128 hasA hasB hasQ hscx hf hAz hLz hBz hQl hR hinc
        generalize Q ++ [y] = LL at *
        generalize A ++ LL = T1 at *
        generalize A ++ R = T3 at *
        have hAs := txt_size A
        go_enter Try.func3, Try.ntmps3
        go_wp2_with fail
        refine (succ_koala _).mono ?_
        rintro e w1 ⟨rfl, hb1⟩
        go_wp2_with (first
          | (go_at_call 6; refine (cF.out _).mono ?_; rintro e w2 ⟨rfl, rfl⟩)
          | (go_at_call 7; refine (cS.out _).mono ?_; rintro e w2 ⟨rfl, rfl⟩)
          | (go_at_call_of 8 (Value.string (txt A)); refine (cA.out _).mono ?_; rintro e w2 ⟨rfl, rfl⟩)
          | (go_at_call 8; refine (cB.out _).mono ?_; rintro e w2 ⟨rfl, rfl⟩)
          | (go_at_call_of 5 (Value.string (txt LL)); refine (cI2.out _).mono ?_; rintro e w3 ⟨rfl, hb3⟩)
          | (go_at_call 5; refine (cI1.out _).mono ?_; rintro e w4 ⟨rfl, hb4⟩))
        go_ret
        exact ⟨rfl, chain (chain (hb1.alloc hb1.size _) hb4) hb3⟩

end Go.Proofs.Ytngehfjcfiehlaa
