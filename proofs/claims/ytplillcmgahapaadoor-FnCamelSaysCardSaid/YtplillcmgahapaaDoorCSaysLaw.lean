/- The law FnCamelSays: its walk. -/
import Derived.Test.YtplillcmgahapaaDoorCSays
namespace Go.Proofs.YtplillcmgahapaaDoor
open Go.RowKit U8
open Go.Lib hiding intOf

set_option maxHeartbeats 800000 in
theorem told_open (a b : ByteArray) (w : World) :
    Calls Tryd.prog 17 #[.string a, .string b, .int .i64 2] w fun e w' => e = .returned (.bool true) ∧ w' = w := by
  go_enter Tryd.func17, Tryd.ntmps17
  go_wp2
  go_ret
  exact ⟨rfl, rfl⟩
theorem told_yes (a : ByteArray) (w : World) :
    Calls Tryd.prog 17 #[.string a, .string a, .int .i64 1] w fun e w' => e = .returned (.bool true) ∧ w' = w := by
  go_enter Tryd.func17, Tryd.ntmps17
  go_wp2
  go_ret
  exact ⟨ret_bool (by simp), rfl⟩

set_option maxHeartbeats 1600000 in
set_option maxRecDepth 100000 in
theorem scamel_bad (l : List UInt8) (g : Bool) (w : World) (hl : l.length ≤ 1000000) (ha : ∃ b ∈ l, 128 ≤ b.toNat) :
    Calls Tryd.prog 16 #[.string (txt l), .bool g] w fun e w' => e = .returned (.tuple #[.string ⟨#[]⟩, .int .i64 2]) ∧ w' = w := by
  have cS := Lib.hid fun W => strip_bad l W hl ha
  clear ha
  go_enter Tryd.func16, Tryd.ntmps16
  go_wp2_with (go_at_call 37; refine (cS.out _).mono ?_; rintro e w1 ⟨rfl, rfl⟩)
  go_ret2
  exact ⟨rfl, rfl⟩
set_option maxHeartbeats 1600000 in
set_option maxRecDepth 100000 in
theorem scamel_id (l : List UInt8) (g : Bool) (w : World) (hl : l.length ≤ 1000000) (ha : ∀ b ∈ l, b.toNat < 128) (hid : trimSpace l = [73, 68]) :
    Calls Tryd.prog 16 #[.string (txt l), .bool g] w fun e w' => e = .returned (.tuple #[.string ⟨#[]⟩, .int .i64 2]) ∧ w' = w := by
  have cS := Lib.hid fun W => strip_asc l W hl ha
  rw [hid] at cS
  have hids : ((txt [73, 68]).toList == [73, 68]) = true := by rw [txt_toList]; rfl
  clear ha hid
  go_enter Tryd.func16, Tryd.ntmps16
  go_wp2_with (go_at_call 37; refine (cS.out _).mono ?_; rintro e w1 ⟨rfl, rfl⟩)
  go_ret2
  exact ⟨rfl, rfl⟩

set_option maxHeartbeats 3200000 in
set_option maxRecDepth 100000 in
theorem law_camelSays (s : ByteArray) (w : World) (hsz : s.size ≤ 140737488351232) (hS : Spc w) :
    Calls Tryd.prog 4 #[.string s] w fun e w' => e = .returned (.bool true) ∧ Below w.heap.size w w' := by
  by_cases hbig : 2147483647 < s.size
  · go_enter Tryd.func4, Tryd.ntmps4
    go_wp2
    go_ret
    exact ⟨rfl, Below.refl _ _⟩
  have hle : s.size ≤ 2147483647 := by omega
  clear hbig hsz
  cases hf : decide (1 + s.size ≤ 400) with
  | false =>
    have cF := Lib.hid fun W => few1 s false W hle hf
    go_enter Tryd.func4, Tryd.ntmps4
    go_wp2_with fail
    refine (cam_ex1 _ hS).mono ?_
    rintro e w1 ⟨rfl, hb1⟩
    go_wp2_with fail
    refine (cF.out _).mono ?_
    rintro e w2 ⟨rfl, hb2⟩
    go_wp2
    go_ret
    exact ⟨rfl, chain hb1 hb2⟩
  | true =>
    have cF := Lib.hid fun W => few1 s true W hle hf
    obtain ⟨l, rfl⟩ : ∃ l, s = txt l := ⟨s.data.toList, (list_txt s).symm⟩
    have hl : l.length ≤ 400 := by rw [decide_eq_true_eq, txt_size] at hf; omega
    have cT := Lib.hid fun W (k : Spc W) => toCamel_any l W (by omega) k
    have cL := Lib.hid fun W (k : Spc W) => toLowerCamel_any l W (by omega) k
    clear hf
    by_cases ha : ∀ b ∈ l, b.toNat < 128
    · by_cases hid : trimSpace l = [73, 68]
      · have c1 := Lib.hid fun W => scamel_id l true W (by omega) ha hid
        have c2 := Lib.hid fun W => scamel_id l false W (by omega) ha hid
        clear ha hid
        generalize cam true true (trimSpaceD l) = T at *
        generalize cam false true (trimSpaceD l) = TL at *
        go_enter Tryd.func4, Tryd.ntmps4
        go_wp2_with fail
        refine (cam_ex1 _ hS).mono ?_
        rintro e w1 ⟨rfl, hb1⟩
        go_wp2_with fail
        refine (cF.out _).mono ?_
        rintro e w2 ⟨rfl, hb2⟩
        have hc2 := chain hb1 hb2
        go_wp2_with fail
        refine (c1.out _).mono ?_
        rintro e w3 ⟨rfl, rfl⟩
        go_wp2_with fail
        refine (c2.out _).mono ?_
        rintro e w4 ⟨rfl, rfl⟩
        go_wp2_with fail
        refine (cT.out _ (hS.below hc2)).mono ?_
        rintro e w5 ⟨rfl, hb5⟩
        have hc5 := chain hc2 hb5
        go_wp2_with fail
        refine (told_open _ _ _).mono ?_
        rintro e w6 ⟨rfl, rfl⟩
        go_wp2_with fail
        refine (cL.out _ (hS.below hc5)).mono ?_
        rintro e w7 ⟨rfl, hb7⟩
        have hc7 := chain hc5 hb7
        go_wp2_with fail
        refine (told_open _ _ _).mono ?_
        rintro e w8 ⟨rfl, rfl⟩
        go_wp2
        go_ret
        exact ⟨rfl, hc7⟩
      · have hE1 : scam true none (trimSpace l) = cam true true (trimSpaceD l) := by rw [scam_none, trim_asc l ha]
        have hE2 : scam false none (trimSpace l) = cam false true (trimSpaceD l) := by rw [scam_none, trim_asc l ha]
        have c1 := Lib.hid fun W => hE1 ▸ scamel_asc l true W (by omega) ha hid
        have c2 := Lib.hid fun W => hE2 ▸ scamel_asc l false W (by omega) ha hid
        clear ha hid hE1 hE2
        generalize cam true true (trimSpaceD l) = T at *
        generalize cam false true (trimSpaceD l) = TL at *
        go_enter Tryd.func4, Tryd.ntmps4
        go_wp2_with fail
        refine (cam_ex1 _ hS).mono ?_
        rintro e w1 ⟨rfl, hb1⟩
        go_wp2_with fail
        refine (cF.out _).mono ?_
        rintro e w2 ⟨rfl, hb2⟩
        have hc2 := chain hb1 hb2
        go_wp2_with fail
        refine (c1.out _).mono ?_
        rintro e w3 ⟨rfl, hb3⟩
        have hc3 := chain hc2 hb3
        go_wp2_with fail
        refine (c2.out _).mono ?_
        rintro e w4 ⟨rfl, hb4⟩
        have hc4 := chain hc3 hb4
        go_wp2_with fail
        refine (cT.out _ (hS.below hc4)).mono ?_
        rintro e w5 ⟨rfl, hb5⟩
        have hc5 := chain hc4 hb5
        go_wp2_with fail
        refine (told_yes _ _).mono ?_
        rintro e w6 ⟨rfl, rfl⟩
        go_wp2_with fail
        refine (cL.out _ (hS.below hc5)).mono ?_
        rintro e w7 ⟨rfl, hb7⟩
        have hc7 := chain hc5 hb7
        go_wp2_with fail
        refine (told_yes _ _).mono ?_
        rintro e w8 ⟨rfl, rfl⟩
        go_wp2
        go_ret
        exact ⟨rfl, hc7⟩
    · have hbad : ∃ b ∈ l, 128 ≤ b.toNat := by
        apply Classical.byContradiction
        intro h
        exact ha fun b hb => Nat.lt_of_not_le fun k => h ⟨b, hb, k⟩
      have c1 := Lib.hid fun W => scamel_bad l true W (by omega) hbad
      have c2 := Lib.hid fun W => scamel_bad l false W (by omega) hbad
      clear ha hbad
      generalize cam true true (trimSpaceD l) = T at *
      generalize cam false true (trimSpaceD l) = TL at *
      go_enter Tryd.func4, Tryd.ntmps4
      go_wp2_with fail
      refine (cam_ex1 _ hS).mono ?_
      rintro e w1 ⟨rfl, hb1⟩
      go_wp2_with fail
      refine (cF.out _).mono ?_
      rintro e w2 ⟨rfl, hb2⟩
      have hc2 := chain hb1 hb2
      go_wp2_with fail
      refine (c1.out _).mono ?_
      rintro e w3 ⟨rfl, rfl⟩
      go_wp2_with fail
      refine (c2.out _).mono ?_
      rintro e w4 ⟨rfl, rfl⟩
      go_wp2_with fail
      refine (cT.out _ (hS.below hc2)).mono ?_
      rintro e w5 ⟨rfl, hb5⟩
      have hc5 := chain hc2 hb5
      go_wp2_with fail
      refine (told_open _ _ _).mono ?_
      rintro e w6 ⟨rfl, rfl⟩
      go_wp2_with fail
      refine (cL.out _ (hS.below hc5)).mono ?_
      rintro e w7 ⟨rfl, hb7⟩
      have hc7 := chain hc5 hb7
      go_wp2_with fail
      refine (told_open _ _ _).mono ?_
      rintro e w8 ⟨rfl, rfl⟩
      go_wp2
      go_ret
      exact ⟨rfl, hc7⟩

end Go.Proofs.YtplillcmgahapaaDoor
