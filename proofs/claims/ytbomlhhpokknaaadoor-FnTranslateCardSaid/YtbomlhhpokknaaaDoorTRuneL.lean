/- The law FnTranslateRune: its walk, Pattern's contract being given. -/
import Derived.Test.YtbomlhhpokknaaaDoorTPlaw2
namespace Go.Proofs.YtbomlhhpokknaaaDoor
open Go.RowKit U8
open Go.Lib hiding intOf

/-- What is asked of Pattern, of either kind. -/
def PatOf2 (tt : Bool) (f : ByteArray → Option (List Nat × Bool)) : Prop := ∀ (p : ByteArray), p.size ≤ 2147483647 → (∀ L nt, f p = some (L, nt) → L.length ≤ 20000000000000) ∧ ∀ W, Tabs W → Calls Tryd.prog 29 #[.string p, .bool tt] W (SetPost (f p) W)
theorem smapped_of (f g : ByteArray → Option (List Nat × Bool)) (hf : PatOf2 false f) (hg : PatOf2 true g) (hrg : RdOf true g) (c : Nat) (p q : ByteArray) (w : World) (hp : p.size ≤ 2147483647) (hq : q.size ≤ 2147483647) (hT : Tabs w) :
    Calls Tryd.prog 12 #[.int .i32 c, .string p, .string q] w (MapPost (f p) (g q) q c w) := by
  refine smapped_any (f p) (g q) c p q w hT (hf p hp).1 (fun L nt h => ⟨(hg q hq).1 L nt h, fun hqe => ?_⟩) (hf p hp).2 (hg q hq).2
  obtain ⟨qs, hsc, rfl, hpat, _⟩ := hrg q L nt h
  refine pat_ne hpat ?_
  rintro rfl
  revert hqe; rw [enc_nil, txt_toList]; simp
/-- What Mapped says is what the translator does. -/
theorem mapped_trans (f g : ByteArray → Option (List Nat × Bool)) (hrf : RdOf false f) (hrg : RdOf true g) (l1 l2 : List UInt8) (c : Nat) (out : Int) (fnd : Bool)
    (h : (txt l2).toList.isEmpty = false ∧ ∃ L nt M nt2, f (txt l1) = some (L, nt) ∧ g (txt l2) = some (M, nt2) ∧ MapSays L nt M c out fnd) :
    (newTr l1 l2).hit (c : Int) = fnd ∧ ((newTr l1 l2).trans (c : Int)).1 = out ∧ (newTr l1 l2).del = false ∧ (fnd = false → out = (c : Int)) := by
  obtain ⟨hqe, L, nt, M, nt2, h1, h2, hm⟩ := h
  obtain ⟨ps, h3, h4, h5, rfl⟩ := hrf _ L nt h1
  obtain ⟨qs, h6, h7, h8, _⟩ := hrg _ M nt2 h2
  have e1 : l1 = enc ps := by have := congrArg (fun b => b.data.toList) h4; simpa [txt] using this
  have e2 : l2 = enc qs := by have := congrArg (fun b => b.data.toList) h7; simpa [txt] using this
  subst e1; subst e2
  have hqn : qs ≠ [] := by rintro rfl; revert hqe; rw [enc_nil, txt_toList]; simp
  obtain ⟨k1, k2, k3⟩ := trans_law ps qs h3 h6 hqn h5 h8 c out fnd hm
  refine ⟨k1, k2, k3, fun hf => ?_⟩
  rcases hm with ⟨_, _, _, e⟩ | ⟨_, _, e, _⟩
  · rw [e, hf]; rfl
  · exact e hf
theorem rune_ex (w : World) (hT : Tabs w) :
    Calls Tryd.prog 10 #[.string ⟨#[97, 45, 99]⟩, .string ⟨#[120, 45, 122]⟩, .int .i32 98] w fun e w' => e = .returned (.tuple #[.int .i32 121, .bool true]) ∧ Below w.heap.size w w' := by
  have c := trune_im [97, 45, 99] [120, 45, 122] 98 w (by simp) (by simp) (by omega) hT
  rw [show ((newTr [97, 45, 99] [120, 45, 122]).trans ((98 : Nat) : Int)).1 = 121 by decide +kernel, show (newTr [97, 45, 99] [120, 45, 122]).hit ((98 : Nat) : Int) = true by decide +kernel] at c
  exact c

set_option maxHeartbeats 3200000 in
set_option maxRecDepth 100000 in
theorem rune_of (f g : ByteArray → Option (List Nat × Bool)) (hf : PatOf2 false f) (hg : PatOf2 true g) (hrf : RdOf false f) (hrg : RdOf true g) (s q : ByteArray) (u : Int) (w : World) (hsz : s.size ≤ 140737488351232) (hqz : q.size ≤ 140737488351232) (hu0 : -2147483648 ≤ u) (hu1 : u ≤ 2147483647) (hT : Tabs w) :
    Calls Tryd.prog 3 #[.string s, .string q, .int .i32 u] w fun e w' => e = .returned (.bool true) ∧ Below w.heap.size w w' := by
  by_cases hbig : 2147483647 < s.size
  · go_enter Tryd.func3, Tryd.ntmps3
    go_wp2
    go_ret
    exact ⟨rfl, Below.refl _ _⟩
  by_cases hbig2 : 2147483647 < q.size
  · go_enter Tryd.func3, Tryd.ntmps3
    go_wp2
    go_ret
    exact ⟨rfl, Below.refl _ _⟩
  have hle : s.size ≤ 2147483647 := by omega
  have hle2 : q.size ≤ 2147483647 := by omega
  clear hbig hbig2 hsz hqz
  cases hfw : decide (2 + (s.size + q.size) ≤ 400) with
  | false =>
    have cF := Lib.hid fun W => few2 s q false W hle hle2 hfw
    clear hfw
    go_enter Tryd.func3, Tryd.ntmps3
    go_wp2_with fail
    refine (rune_ex _ hT).mono ?_
    rintro e w1 ⟨rfl, hb1⟩
    go_wp2_with fail
    refine (cF.out _).mono ?_
    rintro e w3 ⟨rfl, hb3⟩
    go_wp2
    go_ret
    exact ⟨rfl, chain hb1 hb3⟩
  | true =>
    have cF := Lib.hid fun W => few2 s q true W hle hle2 hfw
    have hfl : 2 + (s.size + q.size) ≤ 400 := of_decide_eq_true hfw
    by_cases hneg : u < 0
    · clear hfw hfl
      go_enter Tryd.func3, Tryd.ntmps3
      go_wp2_with fail
      refine (rune_ex _ hT).mono ?_
      rintro e w1 ⟨rfl, hb1⟩
      go_wp2_with fail
      refine (cF.out _).mono ?_
      rintro e w3 ⟨rfl, hb3⟩
      go_wp2
      go_ret
      exact ⟨rfl, chain hb1 hb3⟩
    obtain ⟨n, rfl⟩ : ∃ n : Nat, u = (n : Int) := ⟨u.toNat, by omega⟩
    have cD := Lib.hid fun W (h : Tabs W) => smapped_of f g hf hg hrg n s q W hle hle2 h
    obtain ⟨l, rfl⟩ : ∃ l, s = txt l := ⟨s.data.toList, (list_txt s).symm⟩
    obtain ⟨p, rfl⟩ : ∃ l, q = txt l := ⟨q.data.toList, (list_txt q).symm⟩
    have C2 := Lib.hid fun W (h : Tabs W) => trune_im l p n W (by rw [txt_size, txt_size] at hfl; omega) (by rw [txt_size, txt_size] at hfl; omega) (by omega) h
    have HL := Lib.hid fun out fnd => mapped_trans f g hrf hrg l p n out fnd
    clear hfw hfl hu0 hu1
    generalize txt l = s at *
    generalize txt p = q at *
    generalize newTr l p = X at *
    go_enter Tryd.func3, Tryd.ntmps3
    go_wp2_with fail
    refine (rune_ex _ hT).mono ?_
    rintro e w1 ⟨rfl, hb1⟩
    go_wp2_with fail
    refine (cF.out _).mono ?_
    rintro e w2 ⟨rfl, hb2⟩
    have hb12 := chain hb1 hb2
    clear hb1 hb2
    go_wp2_with fail
    refine (cD.out _ (hT.below hb12)).mono ?_
    rintro e w3 ⟨hb3, out, fnd, says, rfl, hsay⟩
    have hb13 := chain hb12 hb3
    clear hb12 hb3
    go_wp2_with fail
    refine (C2.out _ (hT.below hb13)).mono ?_
    rintro e w4 ⟨rfl, hb4⟩
    have hb14 := chain hb13 hb4
    clear hb13 hb4
    by_cases hs : says = 1
    · subst hs
      obtain ⟨h1, h2, _, h4⟩ := HL.out out fnd (hsay rfl)
      rw [h1, h2]
      clear h1 h2 hsay
      cases fnd with
      | true =>
        clear h4
        have hoo : (out == out) = true := by simp
        go_wp2
        go_ret
        exact ⟨rfl, hb14⟩
      | false =>
        have h5 := h4 rfl
        subst h5
        clear h4
        have hoo : ((n : Int) == (n : Int)) = true := by simp
        go_wp2
        go_ret
        exact ⟨rfl, hb14⟩
    · have hn : (says != 1) = true := by rw [bne_iff_ne]; exact hs
      clear hsay hs
      go_wp2
      go_ret
      exact ⟨rfl, hb14⟩

end Go.Proofs.YtbomlhhpokknaaaDoor
