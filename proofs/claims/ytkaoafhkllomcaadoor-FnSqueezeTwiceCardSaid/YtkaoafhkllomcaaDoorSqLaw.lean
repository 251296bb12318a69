/- The law FnSqueezeTwice: its walk. -/
import Derived.Test.YtkaoafhkllomcaaDoorSqueeze
import Derived.Test.YtkaoafhkllomcaaDoorPHelp
import Derived.BigQuiet
import Derived.Deep.QuietTactic
namespace Go.Proofs.YtkaoafhkllomcaaDoor
open Go.RowKit U8
open Go.Lib hiding intOf

theorem implSqueeze_any (rs : List Nat) (w : World) (hs : Scs rs) (hl : (enc rs).length ≤ 100000) (hT : Tabs w) :
    Calls Tryd.prog 31 #[.string (txt (enc rs)), .string ⟨#[]⟩] w fun e w' => e = .returned (.string (txt (enc (sq none rs)))) ∧ Below w.heap.size w w' := by
  go_enter Tryd.func31, Tryd.ntmps31
  go_wp2_with (go_at_call 65; refine (squeeze_any rs _ hs hl hT).mono ?_; rintro e w' ⟨rfl, hb⟩)
  go_ret
  exact ⟨rfl, hb⟩
theorem squeeze_ex (w : World) (hT : Tabs w) :
    Calls Tryd.prog 31 #[.string ⟨#[104, 101, 108, 108, 111]⟩, .string ⟨#[]⟩] w fun e w' => e = .returned (.string ⟨#[104, 101, 108, 111]⟩) ∧ Below w.heap.size w w' :=
  implSqueeze_any [104, 101, 108, 108, 111] w (by decide) (by decide) hT

set_option maxHeartbeats 3200000 in
set_option maxRecDepth 100000 in
theorem law_squeezeTwice (s : ByteArray) (w : World) (hsz : s.size ≤ 140737488351232) (hT : Tabs w) :
    Calls Tryd.prog 5 #[.string s] w fun e w' => e = .returned (.bool true) ∧ Below w.heap.size w w' := by
  by_cases hbig : 2147483647 < s.size
  · go_enter Tryd.func5, Tryd.ntmps5
    go_wp2
    go_ret
    exact ⟨rfl, Below.refl _ _⟩
  have hle : s.size ≤ 2147483647 := by omega
  clear hbig hsz
  rcases ok_cases s with hok | ⟨rs, hs, rfl, hlen, hok⟩
  · have cV := Lib.hid fun W (h : Tabs W) => valid_no s W hle hok h
    go_enter Tryd.func5, Tryd.ntmps5
    go_wp2_with fail
    refine (squeeze_ex _ hT).mono ?_
    rintro e w1 ⟨rfl, hb1⟩
    go_wp2_with fail
    refine (cV.out _ (hT.below hb1)).mono ?_
    rintro e w2 ⟨rfl, hb2⟩
    go_wp2
    go_ret
    exact ⟨rfl, chain hb1 hb2⟩
  have cV := Lib.hid fun W (h : Tabs W) => valid_yes rs W hlen hok h
  cases hf : decide (1 + (txt (enc rs)).size ≤ 400) with
  | false =>
    have cF := Lib.hid fun W => few1 (txt (enc rs)) false W hle hf
    go_enter Tryd.func5, Tryd.ntmps5
    go_wp2_with fail
    refine (squeeze_ex _ hT).mono ?_
    rintro e w1 ⟨rfl, hb1⟩
    go_wp2_with fail
    refine (cV.out _ (hT.below hb1)).mono ?_
    rintro e w2 ⟨rfl, hb2⟩
    go_wp2_with fail
    refine (cF.out _).mono ?_
    rintro e w3 ⟨rfl, hb3⟩
    go_wp2
    go_ret
    exact ⟨rfl, chain (chain hb1 hb2) hb3⟩
  | true =>
    have cF := Lib.hid fun W => few1 (txt (enc rs)) true W hle hf
    have cI := Lib.hid fun W (h : Tabs W) => implSqueeze_any rs W hs (by omega) h
    have hsq := sq_scs none rs hs
    have hsl := sq_len none rs
    have hslr := enc_length_ge (sq none rs)
    have cRn := Lib.hid fun W => runes_any (sq none rs) W hsq (by omega)
    have cI2 := Lib.hid fun W (h : Tabs W) => sq_twice rs ▸ implSqueeze_any (sq none rs) W hsq (by omega) h
    have cR1 := Lib.hid fun W (h : Tabs W) => implReverse_any rs W hs (by omega) h
    have hrl := enc_reverse_length rs
    have cI3 := Lib.hid fun W (h : Tabs W) => implSqueeze_any rs.reverse W hs.rev (by omega) h
    have hsl3 := sq_len none rs.reverse
    have cR2 := Lib.hid fun W (h : Tabs W) => sq_rev_aux rs ▸ implReverse_any (sq none rs.reverse) W (sq_scs none _ hs.rev) (by omega) h
    have hap := apart_at none (sq none rs) (sq_apart none rs)
    have HAP := Lib.hid hap
    clear hf hok hap hsl3 hrl hsq
    have hQl : (sq none rs).length ≤ 4096 := by omega
    clear hslr hsl
    generalize sq none rs.reverse = Q3 at *
    generalize sq none rs = Q at *
    go_enter Tryd.func5, Tryd.ntmps5
    go_wp2_with fail
    refine (squeeze_ex _ hT).mono ?_
    rintro e w1 ⟨rfl, hb1⟩
    go_wp2_with fail
    refine (cV.out _ (hT.below hb1)).mono ?_
    rintro e w2 ⟨rfl, hb2⟩
    go_wp2_with fail
    refine (cF.out _).mono ?_
    rintro e w3 ⟨rfl, hb3⟩
    have hc3 := chain (chain hb1 hb2) hb3
    go_wp2_with fail
    refine (cI.out _ (hT.below hc3)).mono ?_
    rintro e w4 ⟨rfl, hb4⟩
    have hc4 := chain hc3 hb4
    go_wp2_with fail
    refine (cRn.out _).mono ?_
    rintro e w5 ⟨ao, cap, rfl, hown, hb5⟩
    have hc5 := chain hc4 hb5
    clear hb1 hb2 hb3 hb4 hb5 hc3 hc4
    go_wp2
    go_loopg [5] (Q.length + 1) (fun gk i wr => ∃ k : Nat, i = .int .i64 ((k + 1 : Nat) : Int) ∧ (k + 1 ≤ Q.length ∨ k = 0) ∧ Q.length - k < gk ∧ Below w5.heap.size w5 wr)
    case atStart => exact ⟨0, rfl, .inr rfl, by omega, Below.refl _ _⟩
    case round =>
      obtain ⟨k, rfl, hk, hg, hb⟩ := hrel
      have hcr := hc5.trans (hb.mono hc5.size)
      by_cases hkl : k + 1 < Q.length
      · obtain ⟨g, _, rfl⟩ := owns_some hown (by omega)
        have c1 := (hb.cell (p := ⟨g, k + 1, none⟩) (hown.lt g rfl).2).trans (cellOf hown (k + 1) hkl)
        have c0 := (hb.cell (p := ⟨g, k, none⟩) (hown.lt g rfl).2).trans (cellOf hown k (by omega))
        have hne := HAP.out k _ _ (List.getElem?_eq_getElem (by omega)) (List.getElem?_eq_getElem hkl)
        obtain ⟨a, ha⟩ : ∃ a, Q[k]'(by omega) = a := ⟨_, rfl⟩
        obtain ⟨b, hb2⟩ : ∃ b, Q[k + 1]'hkl = b := ⟨_, rfl⟩
        rw [ha] at c0 hne
        rw [hb2] at c1 hne
        have hx : ((b : Int) == (a : Int)) = false := by simp; omega
        obtain ⟨gk, rfl⟩ : ∃ m, gk = m + 1 := ⟨gk - 1, by omega⟩
        clear ha hb2 hne
        go_wp2
        go_quiet (fail)
        go_wp2
        go_roundg gk
        case rel => exact ⟨k + 1, by go_num, .inl (by omega), by omega, by first | exact hb | exact ⟨hb.os, hb.tape, hb.output, hb.size, hb.block⟩⟩
        case measure => omega
      · clear hown
        go_wp2_with fail
        refine (cI2.out _ (hT.below hcr)).mono ?_
        rintro e w6 ⟨rfl, hb6⟩
        have hc6 := chain hcr hb6
        go_wp2_with fail
        refine (cR1.out _ (hT.below hc6)).mono ?_
        rintro e w7 ⟨rfl, hb7⟩
        have hc7 := chain hc6 hb7
        go_wp2_with fail
        refine (cI3.out _ (hT.below hc7)).mono ?_
        rintro e w8 ⟨rfl, hb8⟩
        have hc8 := chain hc7 hb8
        go_wp2_with fail
        refine (cR2.out _ (hT.below hc8)).mono ?_
        rintro e w9 ⟨rfl, hb9⟩
        have hc9 := chain hc8 hb9
        go_wp2
        go_ret
        exact ⟨rfl, hc9⟩

end Go.Proofs.YtkaoafhkllomcaaDoor
