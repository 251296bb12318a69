/- The law FnTranslateEmpty: its walk, Pattern's contract being given. -/
import Derived.Test.YtbomlhhpokknaaaDoorTRun
import Derived.Test.YtbomlhhpokknaaaDoorTrLaws
import Derived.Test.YtbomlhhpokknaaaDoorQHelp
import Derived.Test.YtbomlhhpokknaaaDoorTSpec
namespace Go.Proofs.YtbomlhhpokknaaaDoor
open Go.RowKit U8
open Go.Lib hiding intOf

/-- What is asked of Pattern. -/
def PatOf (f : ByteArray → Option (List Nat × Bool)) : Prop := ∀ (p : ByteArray) (W : World), p.size ≤ 2147483647 → Tabs W → (∀ L nt, f p = some (L, nt) → L.length ≤ 20000000000000) ∧ Calls Tryd.prog 29 #[.string p, .bool false] W (SetPost (f p) W)

theorem delete_ex (w : World) (hT : Tabs w) :
    Calls Tryd.prog 22 #[.string ⟨#[104, 101, 108, 108, 111]⟩, .string ⟨#[108]⟩] w fun e w' => e = .returned (.string ⟨#[104, 101, 111]⟩) ∧ Below w.heap.size w w' := by
  have c := delete_im [104, 101, 108, 108, 111] [108] w (by simp) (by simp) hT
  rw [show trl [104, 101, 108, 108, 111] [108] [] = [104, 101, 111] by decide +kernel] at c
  exact c

set_option maxHeartbeats 1600000 in
set_option maxRecDepth 100000 in
theorem empty_of (f : ByteArray → Option (List Nat × Bool)) (hf : PatOf f) (s q : ByteArray) (w : World) (hsz : s.size ≤ 140737488351232) (hqz : q.size ≤ 140737488351232) (hT : Tabs w) :
    Calls Tryd.prog 7 #[.string s, .string q] w fun e w' => e = .returned (.bool true) ∧ Below w.heap.size w w' := by
  by_cases hbig : 2147483647 < s.size
  · go_enter Tryd.func7, Tryd.ntmps7
    go_wp2
    go_ret
    exact ⟨rfl, Below.refl _ _⟩
  by_cases hbig2 : 2147483647 < q.size
  · go_enter Tryd.func7, Tryd.ntmps7
    go_wp2
    go_ret
    exact ⟨rfl, Below.refl _ _⟩
  have hle : s.size ≤ 2147483647 := by omega
  have hle2 : q.size ≤ 2147483647 := by omega
  clear hbig hbig2 hsz hqz
  have cD := Lib.hid fun W (h : Tabs W) => sdel_any (f q) s q W hle h (hf q W hle2 h).1 (hf q W hle2 h).2
  cases hfw : decide (2 + (s.size + q.size) ≤ 400) with
  | false =>
    have cF := Lib.hid fun W => few2 s q false W hle hle2 hfw
    clear hfw
    go_enter Tryd.func7, Tryd.ntmps7
    go_wp2_with fail
    refine (delete_ex _ hT).mono ?_
    rintro e w1 ⟨rfl, hb1⟩
    go_wp2_with fail
    refine (cD.out _ (hT.below hb1)).mono ?_
    rintro e w2 ⟨hb2, t, says, rfl⟩
    go_wp2_with fail
    refine (cF.out _).mono ?_
    rintro e w3 ⟨rfl, hb3⟩
    go_wp2
    go_ret
    exact ⟨rfl, chain (chain hb1 hb2) hb3⟩
  | true =>
    have cF := Lib.hid fun W => few2 s q true W hle hle2 hfw
    have hfl : 2 + (s.size + q.size) ≤ 400 := of_decide_eq_true hfw
    obtain ⟨l, rfl⟩ : ∃ l, s = txt l := ⟨s.data.toList, (list_txt s).symm⟩
    obtain ⟨p, rfl⟩ : ∃ l, q = txt l := ⟨q.data.toList, (list_txt q).symm⟩
    rw [txt_size, txt_size] at hfl
    have c2 := fun W (h : Tabs W) => translate_im l p [] W (by omega) (by omega) (by simp) h
    have c3 := fun W (h : Tabs W) => delete_im l p W (by omega) (by omega) h
    rw [show txt ([] : List UInt8) = ⟨#[]⟩ from rfl] at c2
    generalize txt (trl l p []) = D at *
    generalize txt l = s at *
    generalize txt p = q at *
    have C2 := Lib.hid c2
    have C3 := Lib.hid c3
    have hDD : (D.toList == D.toList) = true := by simp
    clear hfw c2 c3 hfl
    go_enter Tryd.func7, Tryd.ntmps7
    go_wp2_with fail
    refine (delete_ex _ hT).mono ?_
    rintro e w1 ⟨rfl, hb1⟩
    go_wp2_with fail
    refine (cD.out _ (hT.below hb1)).mono ?_
    rintro e w2 ⟨hb2, t, says, rfl⟩
    have hb12 := chain hb1 hb2
    clear hb1 hb2
    go_wp2_with fail
    refine (cF.out _).mono ?_
    rintro e w3 ⟨rfl, hb3⟩
    have hb13 := chain hb12 hb3
    clear hb12 hb3
    by_cases hsay : says = 1
    · subst hsay
      go_wp2_with fail
      refine (C2.out _ (hT.below hb13)).mono ?_
      rintro e w4 ⟨rfl, hb4⟩
      have hb14 := chain hb13 hb4
      clear hb13 hb4
      go_wp2_with fail
      refine (C3.out _ (hT.below hb14)).mono ?_
      rintro e w5 ⟨rfl, hb5⟩
      have hb15 := chain hb14 hb5
      clear hb14 hb5
      go_wp2
      go_ret
      exact ⟨rfl, hb15⟩
    · have hn : (says != 1) = true := by rw [bne_iff_ne]; exact hsay
      go_wp2
      go_ret
      exact ⟨rfl, hb13⟩

end Go.Proofs.YtbomlhhpokknaaaDoor
