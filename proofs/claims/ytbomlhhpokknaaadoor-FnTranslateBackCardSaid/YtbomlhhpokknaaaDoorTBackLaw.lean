/- The law FnTranslateBack: its walk. -/
import Derived.Test.YtbomlhhpokknaaaDoorTRun
import Derived.Test.YtbomlhhpokknaaaDoorTRot
import Derived.Test.YtbomlhhpokknaaaDoorQHelp
import Derived.RegionTactic
import Derived.ChangeAlike
import Derived.Deep.CutBlock
namespace Go.Proofs.YtbomlhhpokknaaaDoor
open Go.RowKit U8
open Go.Lib hiding intOf

theorem ifm_ex (w : World) (hT : Tabs w) :
    Calls Tryd.prog 15 #[.string ⟨#[104, 101, 108, 108, 111]⟩, .string ⟨#[97, 45, 122]⟩, .string ⟨#[98, 45, 122, 97]⟩] w fun e w' => e = .returned (.string ⟨#[105, 102, 109, 109, 112]⟩) ∧ Below w.heap.size w w' := by
  have c := translate_im [104, 101, 108, 108, 111] [97, 45, 122] [98, 45, 122, 97] w (by simp) (by simp) (by simp) hT
  rw [show trl [104, 101, 108, 108, 111] [97, 45, 122] [98, 45, 122, 97] = [105, 102, 109, 109, 112] by decide +kernel] at c
  exact c
theorem one_text (W : World) (g x : Nat) (h : x < 256) (hc : W.cell? ⟨g, 0, none⟩ = some (.int .u8 (x : Int))) :
    (convert 41 9 (.slice (some ⟨g, 0, none⟩) 1 1)).run Tryd.prog W = .ok (.string (txt [x.toUInt8])) W := by
  refine run_bytes_text [x.toUInt8] rfl fun j hj => ?_
  obtain rfl : j = 0 := by omega
  rw [hc, byteCells_get]
  have e : x.toUInt8.toNat = x := by show x % 256 = x; omega
  simp [e]

set_option maxHeartbeats 3200000 in
set_option maxRecDepth 100000 in
theorem law_translateBack (s : ByteArray) (u : Int) (w : World) (hsz : s.size ≤ 140737488351232) (hu0 : 0 ≤ u) (hu1 : u ≤ 255) (hT : Tabs w) :
    Calls Tryd.prog 8 #[.string s, .int .u8 u] w fun e w' => e = .returned (.bool true) ∧ Below w.heap.size w w' := by
  by_cases hbig : 2147483647 < s.size
  · go_enter Tryd.func8, Tryd.ntmps8
    go_wp2
    go_ret
    exact ⟨rfl, Below.refl _ _⟩
  have hle : s.size ≤ 2147483647 := by omega
  clear hbig hsz
  obtain ⟨k, hk⟩ : ∃ k : Nat, u % 26 = (k : Int) := ⟨(u % 26).toNat, by omega⟩
  have hk26 : k < 26 := by omega
  rcases ok_cases s with hok | ⟨rs, hs, rfl, hlen, hok⟩
  · have cV := Lib.hid fun W (h : Tabs W) => valid_no s W hle hok h
    clear hk
    go_enter Tryd.func8, Tryd.ntmps8
    go_wp2_with fail
    refine (ifm_ex _ hT).mono ?_
    rintro e w1 ⟨rfl, hb1⟩
    go_wp2_with fail
    refine (cV.out _ (hT.below hb1)).mono ?_
    rintro e w2 ⟨rfl, hb2⟩
    go_wp2
    go_ret
    exact ⟨rfl, chain hb1 hb2⟩
  have cV := Lib.hid fun W (h : Tabs W) => valid_yes rs W hlen hok h
  cases hf : decide (1 + (txt (enc rs)).size ≤ 400) with
  | false =>
    have cF := Lib.hid fun W => few1 (txt (enc rs)) false W hle hf
    clear hk
    go_enter Tryd.func8, Tryd.ntmps8
    go_wp2_with fail
    refine (ifm_ex _ hT).mono ?_
    rintro e w1 ⟨rfl, hb1⟩
    go_wp2_with fail
    refine (cV.out _ (hT.below hb1)).mono ?_
    rintro e w2 ⟨rfl, hb2⟩
    go_wp2_with fail
    refine (cF.out _).mono ?_
    rintro e w3 ⟨rfl, hb3⟩
    go_wp2
    go_ret
    exact ⟨rfl, chain (chain hb1 hb2) hb3⟩
  | true =>
    have cF := Lib.hid fun W => few1 (txt (enc rs)) true W hle hf
    by_cases hlo : k < 2 ∨ 24 < k
    · have hko : (k : Int) < 2 ∨ 24 < (k : Int) := by omega
      rcases hko with hk2 | hk2
      all_goals
        go_enter Tryd.func8, Tryd.ntmps8
        go_wp2_with fail
        refine (ifm_ex _ hT).mono ?_
        rintro e w1 ⟨rfl, hb1⟩
        go_wp2_with fail
        refine (cV.out _ (hT.below hb1)).mono ?_
        rintro e w2 ⟨rfl, hb2⟩
        go_wp2_with fail
        refine (cF.out _).mono ?_
        rintro e w3 ⟨rfl, hb3⟩
        go_wp2
        go_ret
        exact ⟨rfl, chain (chain hb1 hb2) hb3⟩
    have h2 : 2 ≤ k := by omega
    have h25 : k < 25 := by omega
    clear hlo
    have hq := map_scs h25 hs
    have hql := tu_len h25 rs
    have c1 := fun W (h : Tabs W) => translate_im (enc rs) [97, 45, 122] (turnC k) W (by omega) (by simp) (by simp [turnC]) h
    have c2 := fun W (h : Tabs W) => translate_im (enc (rs.map (tuN k))) (turnC k) [97, 45, 122] W (by omega) (by simp [turnC]) (by simp) h
    have c3 := fun W (h : Tabs W) => count_im (enc (rs.map (tuN k))) [97, 45, 122] W (by omega) (by simp) h
    have c4 := fun W (h : Tabs W) => count_im (enc rs) [97, 45, 122] W (by omega) (by simp) h
    have c5 := fun W (h : Tabs W) => delete_im (enc (rs.map (tuN k))) [97, 45, 122] W (by omega) (by simp) h
    have c6 := fun W (h : Tabs W) => delete_im (enc rs) [97, 45, 122] W (by omega) (by simp) h
    rw [show trl (enc rs) [97, 45, 122] (turnC k) = enc (rs.map (tuN k)) from tu_text k h2 h25 rs hs] at c1
    rw [show trl (enc (rs.map (tuN k))) (turnC k) [97, 45, 122] = enc rs from (ba_text k h2 h25 _ hq).trans (by rw [tu_back h2 h25])] at c2
    rw [show cnt (enc (rs.map (tuN k))) [97, 45, 122] = rs.countP isaz from (if_neg (by simp)).trans ((del_count _ hq).trans (tu_count h25 rs))] at c3
    rw [show cnt (enc rs) [97, 45, 122] = rs.countP isaz from (if_neg (by simp)).trans (del_count _ hs)] at c4
    rw [show trl (enc (rs.map (tuN k))) [97, 45, 122] [] = enc (rs.filter fun r => !isaz r) from (del_text _ hq).trans (by rw [tu_filter h25])] at c5
    rw [show trl (enc rs) [97, 45, 122] [] = enc (rs.filter fun r => !isaz r) from del_text _ hs] at c6
    have ht1 := one_text (x := 97 + k) (h := by omega)
    have ht2 := one_text (x := 96 + k) (h := by omega)
    have hcat : (txt [(97 + k).toUInt8] ++ (⟨#[45, 122, 97, 45]⟩ : ByteArray)) ++ txt [(96 + k).toUInt8] = txt (turnC k) := by
      rw [show (⟨#[45, 122, 97, 45]⟩ : ByteArray) = txt [45, 122, 97, 45] from rfl, txt_append, txt_append]; rfl
    have hs1 : (txt [(97 + k).toUInt8]).size ≤ 1 := by rw [txt_size]; simp
    have hs2 : (txt [(96 + k).toUInt8]).size ≤ 1 := by rw [txt_size]; simp
    rw [show ((97 + k : Nat) : Int) = 97 + (k : Int) by omega] at ht1
    rw [show ((96 + k : Nat) : Int) = 97 + (k : Int) - 1 by omega] at ht2
    obtain ⟨D1, hD1⟩ : ∃ D, txt [(97 + k).toUInt8] = D := ⟨_, rfl⟩
    obtain ⟨D2, hD2⟩ : ∃ D, txt [(96 + k).toUInt8] = D := ⟨_, rfl⟩
    obtain ⟨TT, hTT⟩ : ∃ T, txt (turnC k) = T := ⟨_, rfl⟩
    rw [hD1] at hcat ht1 hs1
    rw [hD2] at hcat ht2 hs2
    rw [hTT] at c1 c2 hcat
    clear hD1 hD2 hTT hf hq hql
    generalize rs.countP isaz = M at *
    generalize rs.map (tuN k) = Q at *
    generalize rs.filter (fun r => !isaz r) = F at *
    have C1 := Lib.hid c1
    have C2 := Lib.hid c2
    have C3 := Lib.hid c3
    have C4 := Lib.hid c4
    have C5 := Lib.hid c5
    have C6 := Lib.hid c6
    have HC := Lib.hid hcat
    have HT1 := Lib.hid ht1
    have HT2 := Lib.hid ht2
    clear c1 c2 c3 c4 c5 c6 hcat ht1 ht2
    have hMM : ((M : Int) == (M : Int)) = true := by simp
    go_enter Tryd.func8, Tryd.ntmps8
    go_wp2_with fail
    refine (ifm_ex _ hT).mono ?_
    rintro e w1 ⟨rfl, hb1⟩
    go_wp2_with fail
    refine (cV.out _ (hT.below hb1)).mono ?_
    rintro e w2 ⟨rfl, hb2⟩
    go_wp2_with fail
    refine (cF.out _).mono ?_
    rintro e w3 ⟨rfl, hb3⟩
    have h3 := chain (chain hb1 hb2) hb3
    clear hb1 hb2 hb3
    go_upto_region 8 with fail
    go_cut [6, 7] (fun c d W => c = .string D1 ∧ d = .string D2 ∧ Below w3.heap.size w3 W)
    case first =>
      have ht1 := HT1.out
      have ht2 := HT2.out
      go_region
      all_goals (go_wp2; go_meet; refine ⟨rfl, rfl, ?_⟩)
      all_goals exact (((Below.refl w3.heap.size w3).alloc (Nat.le_refl _) _).alloc (by simp) _).drew
    case rest =>
      obtain ⟨rfl, rfl, hb4⟩ := hcut
      have h4 := chain h3 hb4
      have hcat := HC.out
      go_wp2_with fail
      refine (C1.out _ (hT.below h4)).mono ?_
      rintro e w5 ⟨rfl, hb5⟩
      have h5 := chain h4 hb5
      go_wp2_with fail
      refine (C2.out _ (hT.below h5)).mono ?_
      rintro e w6 ⟨rfl, hb6⟩
      have h6 := chain h5 hb6
      go_wp2_with fail
      refine (C3.out _ (hT.below h6)).mono ?_
      rintro e w7 ⟨rfl, hb7⟩
      have h7 := chain h6 hb7
      go_wp2_with fail
      refine (C4.out _ (hT.below h7)).mono ?_
      rintro e w8 ⟨rfl, hb8⟩
      have h8 := chain h7 hb8
      go_wp2_with fail
      refine (C5.out _ (hT.below h8)).mono ?_
      rintro e w9 ⟨rfl, hb9⟩
      have h9 := chain h8 hb9
      go_wp2_with fail
      refine (C6.out _ (hT.below h9)).mono ?_
      rintro e w10 ⟨rfl, hb10⟩
      have h10 := chain h9 hb10
      go_wp2
      go_ret
      exact ⟨rfl, h10⟩

end Go.Proofs.YtbomlhhpokknaaaDoor
