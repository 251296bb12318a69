/- The law FnWidth: its walk. -/
import Derived.Test.YtodablchamiaeaaDoorRunes
namespace Go.Proofs.YtodablchamiaeaaDoor
open Go.RowKit U8
open Go.Lib hiding intOf

theorem implWidth_any (rs : List Nat) (w : World) (hs : Scs rs) (hl : rs.length ≤ 1000000) (hT : Tabs w) :
    Calls Tryd.prog 24 #[.string (txt (enc rs))] w fun e w' => e = .returned (.int .i64 (widAll rs)) ∧ Below w.heap.size w w' := by
  go_enter Tryd.func24, Tryd.ntmps24
  go_wp2_with (go_at_call 53; refine (width_any rs _ hs hl hT).mono ?_; rintro e w' ⟨rfl, hb⟩)
  go_ret
  exact ⟨rfl, hb⟩

theorem width_ab (w : World) (hT : Tabs w) : Calls Tryd.prog 24 #[.string ⟨#[97, 98]⟩] w fun e w' => e = .returned (.int .i64 2) ∧ Below w.heap.size w w' :=
  implWidth_any [97, 98] w (by decide) (by decide) hT

set_option maxHeartbeats 800000 in
theorem law_width (s : ByteArray) (w : World) (hsz : s.size ≤ 140737488351232) (hT : Tabs w) :
    Calls Tryd.prog 6 #[.string s] w fun e w' => e = .returned (.bool true) ∧ Below w.heap.size w w' := by
  by_cases hbig : 2147483647 < s.size
  · go_enter Tryd.func6, Tryd.ntmps6
    go_wp2
    go_ret
    exact ⟨rfl, Below.refl _ _⟩
  have hle : s.size ≤ 2147483647 := by omega
  rcases ok_cases s with hok | ⟨rs, hs, rfl, hlen, hok⟩
  · go_enter Tryd.func6, Tryd.ntmps6
    go_wp2_with (first
      | (go_at_call 17; refine (valid_no s _ hle hok hT).mono ?_; rintro e w1 ⟨rfl, hb1⟩)
      | (go_at_call 24; refine (width_ab _ (hT.below hb1)).mono ?_; rintro e w2 ⟨rfl, hb2⟩))
    go_ret
    exact ⟨rfl, hb1.trans (hb2.mono hb1.size)⟩
  · have hl : rs.length ≤ 4096 := by have := enc_length_ge rs; omega
    have HV := fun W (h : Tabs W) => valid_yes rs W hlen hok h
    have HV' := Lib.hid HV
    clear HV hok hbig hsz
    go_enter Tryd.func6, Tryd.ntmps6
    go_wp2_with (first
      | (go_at_call 17; refine (HV'.out _ hT).mono ?_; rintro e w1 ⟨rfl, hb1⟩)
      | (go_at_call 19; refine (runes_any rs _ hs (by omega)).mono ?_; rintro e w2 ⟨ao, cap, rfl, hown, hb2⟩))
    have hTw := hT.below (hb1.trans (hb2.mono hb1.size))
    go_loop [3, 17] (fun n i => ∃ k : Nat, k ≤ rs.length ∧ i = .int .i64 k ∧ n = .int .i64 (widAll (rs.take k))) (fun _ i => rs.length - (intOf i).toNat)
    case atStart => exact ⟨0, Nat.zero_le _, rfl, by simp [widAll]⟩
    case round =>
      obtain ⟨k, hk, rfl, rfl⟩ := hrel
      have hbd := widAll_bd (rs.take k)
      have htl : (rs.take k).length ≤ k := List.length_take_le _ _
      by_cases hlt : k < rs.length
      · obtain ⟨g, _, rfl⟩ := owns_some hown (by omega)
        obtain ⟨r, hr⟩ : ∃ r, rs[k] = r := ⟨_, rfl⟩
        have hc := cellOf hown k hlt
        have hri := (hs (rs[k]) (List.getElem_mem hlt)).i32
        have hwb := wid_bd r
        have htk : widAll (rs.take (k + 1)) = widAll (rs.take k) + wid r := by rw [List.take_succ_eq_append_getElem hlt, widAll_snoc, hr]
        rw [hr] at hc hri
        have HT := Lib.hid htk
        clear htk hr
        go_wp2_with (go_at_call 25; refine (implRuneWidth_any _ _ hri.1 hri.2).mono ?_; rintro e w3 ⟨rfl, rfl⟩)
        go_round
        case rel => exact ⟨k + 1, by omega, by go_num, by rw [HT.out]⟩
        case measure => simp [intOf]; omega
      · obtain rfl : k = rs.length := by omega
        have htk : widAll (rs.take rs.length) = widAll rs := by rw [List.take_length]
        have hbd2 := widAll_bd rs
        rw [htk]
        clear htk hlt hk htl hbd
        go_wp2_with (first
          | (go_at_call_of 24 (Value.string (txt (enc rs))); refine (implWidth_any rs _ hs (by omega) hTw).mono ?_; rintro e w3 ⟨rfl, hb3⟩)
          | (go_at_call 24; refine (width_ab _ (hTw.below hb3)).mono ?_; rintro e w4 ⟨rfl, hb4⟩))
        go_ret
        exact ⟨rfl, ((hb1.trans (hb2.mono hb1.size)).trans (hb3.mono (Nat.le_trans hb1.size hb2.size))).trans (hb4.mono (Nat.le_trans hb1.size (Nat.le_trans hb2.size hb3.size)))⟩
end Go.Proofs.YtodablchamiaeaaDoor
