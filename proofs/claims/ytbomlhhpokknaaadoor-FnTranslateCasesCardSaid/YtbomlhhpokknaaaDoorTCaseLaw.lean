/- The law FnTranslateCases: its walk. -/
import Derived.Test.YtbomlhhpokknaaaDoorTRun
import Derived.Test.YtbomlhhpokknaaaDoorTRot
import Derived.Test.YtbomlhhpokknaaaDoorTSwaps
import Derived.Test.YtbomlhhpokknaaaDoorQHelp
namespace Go.Proofs.YtbomlhhpokknaaaDoor
open Go.RowKit U8
open Go.Lib hiding intOf

theorem hello_ex (w : World) (hT : Tabs w) :
    Calls Tryd.prog 15 #[.string ⟨#[104, 101, 108, 108, 111]⟩, .string ⟨#[97, 45, 122]⟩, .string ⟨#[65, 45, 90]⟩] w fun e w' => e = .returned (.string ⟨#[72, 69, 76, 76, 79]⟩) ∧ Below w.heap.size w w' := by
  have c := translate_im [104, 101, 108, 108, 111] [97, 45, 122] [65, 45, 90] w (by simp) (by simp) (by simp) hT
  rw [show trl [104, 101, 108, 108, 111] [97, 45, 122] [65, 45, 90] = [72, 69, 76, 76, 79] by decide +kernel] at c
  exact c
theorem upN_b (rs : List Nat) (hs : Scs rs) : enc (rs.map upN) = (enc rs).map upB :=
  enc_bytes upN upB (fun r h => by unfold upN; rw [if_neg (by omega)]) (fun r h => by
    have hn : r.toUInt8.toNat = r := by show r % 256 = r; omega
    unfold upN upB
    rw [hn]
    by_cases c : 97 ≤ r ∧ r ≤ 122
    · rw [if_pos c, if_pos c]; exact ⟨by omega, rfl⟩
    · rw [if_neg c, if_neg c]; exact ⟨h, rfl⟩) (fun b h => by unfold upB; rw [if_neg (by omega)]) rs hs
theorem loN_b (rs : List Nat) (hs : Scs rs) : enc (rs.map loN) = (enc rs).map loB :=
  enc_bytes loN loB (fun r h => by unfold loN; rw [if_neg (by omega)]) (fun r h => by
    have hn : r.toUInt8.toNat = r := by show r % 256 = r; omega
    unfold loN loB
    rw [hn]
    by_cases c : 65 ≤ r ∧ r ≤ 90
    · rw [if_pos c, if_pos c]; exact ⟨by omega, rfl⟩
    · rw [if_neg c, if_neg c]; exact ⟨h, rfl⟩) (fun b h => by unfold loB; rw [if_neg (by omega)]) rs hs
theorem swN_b (rs : List Nat) (hs : Scs rs) : enc (rs.map swN) = (enc rs).map swB :=
  enc_bytes swN swB (fun r h => by unfold swN; rw [if_neg (by omega), if_neg (by omega)]) (fun r h => by
    have hn : r.toUInt8.toNat = r := by show r % 256 = r; omega
    unfold swN swB upB loB
    rw [hn]
    by_cases c : 97 ≤ r ∧ r ≤ 122
    · have hne : (r - 32).toUInt8 ≠ r.toUInt8 := fun e => by
        have := congrArg UInt8.toNat e
        rw [hn, show (r - 32).toUInt8.toNat = r - 32 by show (r - 32) % 256 = r - 32; omega] at this
        omega
      rw [if_pos c, if_pos c, if_neg hne]; exact ⟨by omega, rfl⟩
    · rw [if_neg c, if_neg c, if_pos rfl]
      by_cases c2 : 65 ≤ r ∧ r ≤ 90
      · rw [if_pos c2, if_pos c2]; exact ⟨by omega, rfl⟩
      · rw [if_neg c2, if_neg c2]; exact ⟨h, rfl⟩) (fun b h => by
    have e : upB b = b := by unfold upB; rw [if_neg (by omega)]
    unfold swB
    rw [if_pos e]
    unfold loB; rw [if_neg (by omega)]) rs hs

set_option maxHeartbeats 3200000 in
set_option maxRecDepth 100000 in
theorem law_translateCases (s : ByteArray) (w : World) (hsz : s.size ≤ 140737488351232) (hT : Tabs w) :
    Calls Tryd.prog 6 #[.string s] w fun e w' => e = .returned (.bool true) ∧ Below w.heap.size w w' := by
  by_cases hbig : 2147483647 < s.size
  · go_enter Tryd.func6, Tryd.ntmps6
    go_wp2
    go_ret
    exact ⟨rfl, Below.refl _ _⟩
  have hle : s.size ≤ 2147483647 := by omega
  clear hbig hsz
  rcases ok_cases s with hok | ⟨rs, hs, rfl, hlen, hok⟩
  · have cV := Lib.hid fun W (h : Tabs W) => valid_no s W hle hok h
    go_enter Tryd.func6, Tryd.ntmps6
    go_wp2_with fail
    refine (hello_ex _ hT).mono ?_
    rintro e w1 ⟨rfl, hb1⟩
    go_wp2_with fail
    refine (cV.out _ (hT.below hb1)).mono ?_
    rintro e w2 ⟨rfl, hb2⟩
    go_wp2
    go_ret
    exact ⟨rfl, chain hb1 hb2⟩
  have cV := Lib.hid fun W (h : Tabs W) => valid_yes rs W hlen hok h
  cases hf : decide (1 + (txt (enc rs)).size ≤ 400) with
  | false =>
    have cF := Lib.hid fun W => few1 (txt (enc rs)) false W hle hf
    go_enter Tryd.func6, Tryd.ntmps6
    go_wp2_with fail
    refine (hello_ex _ hT).mono ?_
    rintro e w1 ⟨rfl, hb1⟩
    go_wp2_with fail
    refine (cV.out _ (hT.below hb1)).mono ?_
    rintro e w2 ⟨rfl, hb2⟩
    go_wp2_with fail
    refine (cF.out _).mono ?_
    rintro e w3 ⟨rfl, hb3⟩
    go_wp2
    go_ret
    exact ⟨rfl, chain (chain hb1 hb2) hb3⟩
  | true =>
    have cF := Lib.hid fun W => few1 (txt (enc rs)) true W hle hf
    have c1 := fun W (h : Tabs W) => translate_im (enc rs) [97, 45, 122] [65, 45, 90] W (by omega) (by simp) (by simp) h
    have c2 := fun W => upper_any (enc rs) W (by omega)
    have c3 := fun W (h : Tabs W) => translate_im (enc rs) [65, 45, 90] [97, 45, 122] W (by omega) (by simp) (by simp) h
    have c4 := fun W => lower_any (enc rs) W (by omega)
    have c5 := fun W (h : Tabs W) => translate_im (enc rs) [97, 45, 122, 65, 45, 90] [65, 45, 90, 97, 45, 122] W (by omega) (by simp) (by simp) h
    have c6 := fun W => swaps_any (enc rs) W (by omega)
    rw [show trl (enc rs) [97, 45, 122] [65, 45, 90] = (enc rs).map upB from (up_text rs hs).trans (upN_b rs hs)] at c1
    rw [show trl (enc rs) [65, 45, 90] [97, 45, 122] = (enc rs).map loB from (lo_text rs hs).trans (loN_b rs hs)] at c3
    rw [show trl (enc rs) [97, 45, 122, 65, 45, 90] [65, 45, 90, 97, 45, 122] = (enc rs).map swB from (sw_text rs hs).trans (swN_b rs hs)] at c5
    clear hf
    generalize (enc rs).map upB = U at *
    generalize (enc rs).map loB = L at *
    generalize (enc rs).map swB = Q at *
    have C1 := Lib.hid c1
    have C2 := Lib.hid c2
    have C3 := Lib.hid c3
    have C4 := Lib.hid c4
    have C5 := Lib.hid c5
    have C6 := Lib.hid c6
    clear c1 c2 c3 c4 c5 c6
    go_enter Tryd.func6, Tryd.ntmps6
    go_wp2_with fail
    refine (hello_ex _ hT).mono ?_
    rintro e w1 ⟨rfl, hb1⟩
    go_wp2_with fail
    refine (cV.out _ (hT.below hb1)).mono ?_
    rintro e w2 ⟨rfl, hb2⟩
    go_wp2_with fail
    refine (cF.out _).mono ?_
    rintro e w3 ⟨rfl, hb3⟩
    have h3 := chain (chain hb1 hb2) hb3
    clear hb1 hb2 hb3
    go_wp2_with fail
    refine (C1.out _ (hT.below h3)).mono ?_
    rintro e w5 ⟨rfl, hb5⟩
    have h5 := chain h3 hb5
    go_wp2_with fail
    refine (C2.out _).mono ?_
    rintro e w6 ⟨rfl, hb6⟩
    have h6 := chain h5 hb6
    go_wp2_with fail
    refine (C3.out _ (hT.below h6)).mono ?_
    rintro e w7 ⟨rfl, hb7⟩
    have h7 := chain h6 hb7
    go_wp2_with fail
    refine (C4.out _).mono ?_
    rintro e w8 ⟨rfl, hb8⟩
    have h8 := chain h7 hb8
    go_wp2_with fail
    refine (C5.out _ (hT.below h8)).mono ?_
    rintro e w9 ⟨rfl, hb9⟩
    have h9 := chain h8 hb9
    go_wp2_with fail
    refine (C6.out _).mono ?_
    rintro e w10 ⟨rfl, hb10⟩
    have h10 := chain h9 hb10
    go_wp2
    go_ret
    exact ⟨rfl, h10⟩

end Go.Proofs.YtbomlhhpokknaaaDoor
