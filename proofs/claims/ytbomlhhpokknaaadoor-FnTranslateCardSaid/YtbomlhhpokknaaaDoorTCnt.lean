/- The law FnCount: its walk, Pattern's contract being given. -/
import Derived.Test.YtbomlhhpokknaaaDoorTEmp
import Derived.Test.YtbomlhhpokknaaaDoorTPlaw
namespace Go.Proofs.YtbomlhhpokknaaaDoor
open Go.RowKit U8
open Go.Lib hiding intOf

/-- What is asked of a reader. -/
def RdOf (tt : Bool) (f : ByteArray → Option (List Nat × Bool)) : Prop := ∀ s L nt, f s = some (L, nt) → ∃ ps, Scs ps ∧ s = txt (enc ps) ∧ pat tt ps = some L ∧ nt = notOf tt ps

theorem count_ex2 (w : World) (hT : Tabs w) :
    Calls Tryd.prog 13 #[.string ⟨#[104, 101, 108, 108, 111]⟩, .string ⟨#[97, 45, 107]⟩] w fun e w' => e = .returned (.int .i64 2) ∧ Below w.heap.size w w' := by
  have c := count_im [104, 101, 108, 108, 111] [97, 45, 107] w (by simp) (by simp) hT
  rw [show cnt [104, 101, 108, 108, 111] [97, 45, 107] = 2 by decide +kernel] at c
  exact c
theorem cnt_law (ps rs : List Nat) (hp : Scs ps) (hr : Scs rs) {L : List Nat} (h : pat false ps = some L) : cnt (enc rs) (enc ps) = rs.countP (inS L (notOf false ps)) := by
  unfold cnt
  by_cases he : ps = []
  · subst he
    have := pat_nil false h
    subst this
    rw [if_pos enc_nil]
    have : rs.countP (inS [] (notOf false [])) = 0 := List.countP_eq_zero.2 (fun x _ => by simp [inS, notOf])
    rw [this]
  · rw [if_neg (enc_nonnil he), count_enc _ rs hr]
    congr 1
    funext r
    exact hit_law ps hp he h r

set_option maxHeartbeats 1600000 in
set_option maxRecDepth 100000 in
theorem count_of (f : ByteArray → Option (List Nat × Bool)) (hf : PatOf f) (hrd : RdOf false f) (s q : ByteArray) (w : World) (hsz : s.size ≤ 140737488351232) (hqz : q.size ≤ 140737488351232) (hT : Tabs w) :
    Calls Tryd.prog 4 #[.string s, .string q] w fun e w' => e = .returned (.bool true) ∧ Below w.heap.size w w' := by
  by_cases hbig : 2147483647 < s.size
  · go_enter Tryd.func4, Tryd.ntmps4
    go_wp2
    go_ret
    exact ⟨rfl, Below.refl _ _⟩
  by_cases hbig2 : 2147483647 < q.size
  · go_enter Tryd.func4, Tryd.ntmps4
    go_wp2
    go_ret
    exact ⟨rfl, Below.refl _ _⟩
  have hle : s.size ≤ 2147483647 := by omega
  have hle2 : q.size ≤ 2147483647 := by omega
  clear hbig hbig2 hsz hqz
  cases hfw : decide (2 + (s.size + q.size) ≤ 400) with
  | false =>
    have cF := Lib.hid fun W => few2 s q false W hle hle2 hfw
    clear hfw
    go_enter Tryd.func4, Tryd.ntmps4
    go_wp2_with fail
    refine (count_ex2 _ hT).mono ?_
    rintro e w1 ⟨rfl, hb1⟩
    go_wp2_with fail
    refine (cF.out _).mono ?_
    rintro e w3 ⟨rfl, hb3⟩
    go_wp2
    go_ret
    exact ⟨rfl, chain hb1 hb3⟩
  | true =>
    have cF := Lib.hid fun W => few2 s q true W hle hle2 hfw
    have hfl : 2 + (s.size + q.size) ≤ 400 := of_decide_eq_true hfw
    have cD := Lib.hid fun W (h : Tabs W) => scount_any (f q) s q W hle h (hf q W hle2 h).1 (hf q W hle2 h).2
    obtain ⟨l, hl⟩ : ∃ l, s = txt l := ⟨s.data.toList, (list_txt s).symm⟩
    obtain ⟨p, hp⟩ : ∃ l, q = txt l := ⟨q.data.toList, (list_txt q).symm⟩
    have c2 := fun W (h : Tabs W) => count_im l p W (by rw [hl, hp, txt_size, txt_size] at hfl; omega) (by rw [hl, hp, txt_size, txt_size] at hfl; omega) h
    rw [← hl, ← hp] at c2
    have hL : Hid (∀ L nt rs, f q = some (L, nt) → s = txt (enc rs) → Scs rs → cnt l p = rs.countP (inS L nt)) := by
      intro L nt rs h1 h2 h3
      obtain ⟨ps, h4, h5, h6, rfl⟩ := hrd q L nt h1
      have e1 : l = enc rs := by have := congrArg (fun b => b.data.toList) (hl.symm.trans h2); simpa [txt] using this
      have e2 : p = enc ps := by have := congrArg (fun b => b.data.toList) (hp.symm.trans h5); simpa [txt] using this
      rw [e1, e2]
      exact cnt_law ps rs h4 h3 h6
    have C2 := Lib.hid c2
    clear hfw c2 hfl hl hp
    generalize cnt l p = K at *
    go_enter Tryd.func4, Tryd.ntmps4
    go_wp2_with fail
    refine (count_ex2 _ hT).mono ?_
    rintro e w1 ⟨rfl, hb1⟩
    go_wp2_with fail
    refine (cF.out _).mono ?_
    rintro e w2 ⟨rfl, hb2⟩
    have hb12 := chain hb1 hb2
    clear hb1 hb2
    go_wp2_with fail
    refine (cD.out _ (hT.below hb12)).mono ?_
    rintro e w3 ⟨hb3, h⟩
    have hb13 := chain hb12 hb3
    clear hb12 hb3
    rcases h with ⟨n, rfl⟩ | ⟨L, nt, rs, h1, h2, h3, rfl⟩
    · go_wp2
      go_ret
      exact ⟨rfl, hb13⟩
    · have hk := hL.out L nt rs h1 h2 h3
      rw [← hk]
      clear hk h1 h2 h3
      have hKK : ((K : Int) == (K : Int)) = true := by simp
      go_wp2_with fail
      refine (C2.out _ (hT.below hb13)).mono ?_
      rintro e w4 ⟨rfl, hb4⟩
      have hb14 := chain hb13 hb4
      clear hb13 hb4
      go_wp2
      go_ret
      exact ⟨rfl, hb14⟩

end Go.Proofs.YtbomlhhpokknaaaDoor
