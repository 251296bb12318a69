/- The laws FnReverse and FnReverseJoined: their walks. -/
import Derived.Test.YtodablchamiaeaaDoorReverse
namespace Go.Proofs.YtodablchamiaeaaDoor
open Go.RowKit U8
open Go.Lib hiding intOf

theorem implReverse_any (rs : List Nat) (w : World) (hs : Scs rs) (hl : (enc rs).length ≤ 1000000) (hT : Tabs w) :
    Calls Tryd.prog 18 #[.string (txt (enc rs))] w fun e w' => e = .returned (.string (txt (enc rs.reverse))) ∧ Below w.heap.size w w' := by
  go_enter Tryd.func18, Tryd.ntmps18
  go_wp2_with (go_at_call 50; refine (reverse_any rs _ hs hl hT).mono ?_; rintro e w' ⟨rfl, hb⟩)
  go_ret
  exact ⟨rfl, hb⟩
theorem reverse_ab (w : World) (hT : Tabs w) : Calls Tryd.prog 18 #[.string ⟨#[97, 98]⟩] w fun e w' => e = .returned (.string ⟨#[98, 97]⟩) ∧ Below w.heap.size w w' :=
  implReverse_any [97, 98] w (by decide) (by decide) hT

set_option maxHeartbeats 800000 in
theorem law_reverseJoined (a b : ByteArray) (w : World) (ha : a.size ≤ 140737488351232) (hb : b.size ≤ 140737488351232) (hT : Tabs w) :
    Calls Tryd.prog 4 #[.string a, .string b] w fun e w' => e = .returned (.bool true) ∧ Below w.heap.size w w' := by
  by_cases hbig : 2147483647 < a.size
  · go_enter Tryd.func4, Tryd.ntmps4
    go_wp2
    go_ret
    exact ⟨rfl, Below.refl _ _⟩
  have hla : a.size ≤ 2147483647 := by omega
  by_cases hbig2 : 2147483647 < b.size
  · go_enter Tryd.func4, Tryd.ntmps4
    go_wp2
    go_ret
    exact ⟨rfl, Below.refl _ _⟩
  have hlb : b.size ≤ 2147483647 := by omega
  clear hbig hbig2 ha hb
  rcases ok_cases a with hok | ⟨rs, hs, rfl, hlen, hok⟩
  · go_enter Tryd.func4, Tryd.ntmps4
    go_wp2_with (first
      | (go_at_call 18; refine (reverse_ab _ hT).mono ?_; rintro e w1 ⟨rfl, hb1⟩)
      | (go_at_call 17; refine (valid_no a _ hla hok (hT.below hb1)).mono ?_; rintro e w2 ⟨rfl, hb2⟩))
    go_ret
    exact ⟨rfl, hb1.trans (hb2.mono hb1.size)⟩
  have HV := Lib.hid fun W (h : Tabs W) => valid_yes rs W hlen hok h
  clear hok
  rcases ok_cases b with hok2 | ⟨qs, hq, rfl, hlen2, hok2⟩
  · go_enter Tryd.func4, Tryd.ntmps4
    go_wp2_with (first
      | (go_at_call 18; refine (reverse_ab _ hT).mono ?_; rintro e w1 ⟨rfl, hb1⟩)
      | (go_at_call_of 17 (Value.string (txt (enc rs))); refine (HV.out _ (hT.below hb1)).mono ?_; rintro e w2 ⟨rfl, hb2⟩)
      | (go_at_call 17; refine (valid_no b _ hlb hok2 (hT.below (hb1.trans (hb2.mono hb1.size)))).mono ?_; rintro e w3 ⟨rfl, hb3⟩))
    go_ret
    exact ⟨rfl, (hb1.trans (hb2.mono hb1.size)).trans (hb3.mono (hb1.trans (hb2.mono hb1.size)).size)⟩
  have HW := Lib.hid fun W (h : Tabs W) => valid_yes qs W hlen2 hok2 h
  clear hok2
  go_enter Tryd.func4, Tryd.ntmps4
  go_wp2_with fail
  refine (reverse_ab _ hT).mono ?_
  rintro e w1 ⟨rfl, hb1⟩
  go_wp2_with fail
  refine (HV.out _ (hT.below hb1)).mono ?_
  rintro e w2 ⟨rfl, hb2⟩
  have hc2 := hb1.trans (hb2.mono hb1.size)
  go_wp2_with fail
  refine (HW.out _ (hT.below hc2)).mono ?_
  rintro e w3 ⟨rfl, hb3⟩
  have hc3 := hc2.trans (hb3.mono hc2.size)
  go_wp2_with fail
  have hrev : Calls Tryd.prog 18 #[.string (txt (enc rs) ++ txt (enc qs))] w3 fun e w' => e = .returned (.string (txt (enc qs.reverse) ++ txt (enc rs.reverse))) ∧ Below w3.heap.size w3 w' := by
    have h := implReverse_any (rs ++ qs) w3 (hs.app hq) (by rw [enc_append, List.length_append]; omega) (hT.below hc3)
    rw [enc_append, ← txt_append, List.reverse_append, enc_append, ← txt_append] at h
    exact h
  refine hrev.mono ?_
  rintro e w4 ⟨rfl, hb4⟩
  have hc4 := hc3.trans (hb4.mono hc3.size)
  go_wp2_with fail
  refine (implReverse_any qs _ hq (by omega) (hT.below hc4)).mono ?_
  rintro e w5 ⟨rfl, hb5⟩
  have hc5 := hc4.trans (hb5.mono hc4.size)
  go_wp2_with fail
  refine (implReverse_any rs _ hs (by omega) (hT.below hc5)).mono ?_
  rintro e w6 ⟨rfl, hb6⟩
  have hc6 := hc5.trans (hb6.mono hc5.size)
  have hsum : (txt (enc qs.reverse)).size + (txt (enc rs.reverse)).size ≤ 10000 := by rw [txt_size, txt_size, enc_reverse_length, enc_reverse_length]; omega
  go_wp2
  go_ret
  exact ⟨by simp, hc6⟩

/-- A list that is turned round from both ends, k steps of it. -/
def Turned (rs ys : List Nat) (k : Nat) : Prop := ys.length = rs.length ∧ ∀ m, m < rs.length → ys[m]? = if m < k ∨ rs.length ≤ m + k then rs[rs.length - 1 - m]? else rs[m]?
theorem Turned.zero (rs : List Nat) : Turned rs rs 0 := ⟨rfl, fun m hm => by rw [if_neg (by omega)]⟩
theorem Turned.done {rs ys : List Nat} {k : Nat} (h : Turned rs ys k) (hk : rs.length ≤ 2 * k + 1) : ys = rs.reverse := by
  apply List.ext_getElem?
  intro m
  by_cases hm : m < rs.length
  · rw [h.2 m hm, List.getElem?_reverse hm]
    by_cases c : m < k ∨ rs.length ≤ m + k
    · rw [if_pos c]
    · rw [if_neg c, show rs.length - 1 - m = m by omega]
  · rw [List.getElem?_eq_none (by rw [h.1]; omega), List.getElem?_eq_none (by simp; omega)]
theorem Turned.step {rs ys : List Nat} {k : Nat} (h : Turned rs ys k) (hk : 2 * k + 1 < rs.length) (a b : Nat) (ha : ys[k]? = some a) (hb : ys[rs.length - 1 - k]? = some b) :
    Turned rs ((ys.set k b).set (rs.length - 1 - k) a) (k + 1) := by
  have hl := h.1
  refine ⟨by simp [hl], fun m hm => ?_⟩
  have h1 := h.2 k (by omega)
  have h2 := h.2 (rs.length - 1 - k) (by omega)
  rw [if_neg (by omega)] at h1 h2
  rw [List.getElem?_set, List.getElem?_set]
  by_cases c1 : rs.length - 1 - k = m
  · subst c1
    rw [if_pos rfl, if_pos (by simp; omega), if_pos (by omega), ← ha, h1]
    congr 1; omega
  · rw [if_neg c1]
    by_cases c2 : k = m
    · subst c2
      rw [if_pos rfl, if_pos (by omega), if_pos (by omega), ← hb, h2]
    · rw [if_neg c2, h.2 m hm]
      by_cases c3 : m < k ∨ rs.length ≤ m + k
      · rw [if_pos c3, if_pos (by omega)]
      · rw [if_neg c3, if_neg (by omega)]

theorem cells_set (ys : List Nat) (k a : Nat) : (cells ys).set k (.int .i32 (a : Int)) = cells (ys.set k a) := by unfold cells; rw [List.map_set]

set_option maxHeartbeats 1600000 in
set_option maxRecDepth 100000 in
theorem law_reverse (s : ByteArray) (w : World) (hsz : s.size ≤ 140737488351232) (hT : Tabs w) :
    Calls Tryd.prog 3 #[.string s] w fun e w' => e = .returned (.bool true) ∧ Below w.heap.size w w' := by
  by_cases hbig : 2147483647 < s.size
  · go_enter Tryd.func3, Tryd.ntmps3
    go_wp2
    go_ret
    exact ⟨rfl, Below.refl _ _⟩
  have hle : s.size ≤ 2147483647 := by omega
  rcases ok_cases s with hok | ⟨rs, hs, rfl, hlen, hok⟩
  · go_enter Tryd.func3, Tryd.ntmps3
    go_wp2_with (first
      | (go_at_call 17; refine (valid_no s _ hle hok hT).mono ?_; rintro e w1 ⟨rfl, hb1⟩)
      | (go_at_call 18; refine (reverse_ab _ (hT.below hb1)).mono ?_; rintro e w2 ⟨rfl, hb2⟩))
    go_ret
    exact ⟨rfl, hb1.trans (hb2.mono hb1.size)⟩
  · have hl : rs.length ≤ 4096 := by have := enc_length_ge rs; omega
    have HV := Lib.hid fun W (h : Tabs W) => valid_yes rs W hlen hok h
    clear hok hbig hsz
    go_enter Tryd.func3, Tryd.ntmps3
    go_wp2_with (first
      | (go_at_call 17; refine (HV.out _ hT).mono ?_; rintro e w1 ⟨rfl, hb1⟩)
      | (go_at_call 19; refine (runes_any rs _ hs (by omega)).mono ?_; rintro e w2 ⟨ao, cap, rfl, hown, hb2⟩))
    have hc2 := hb1.trans (hb2.mono hb1.size)
    have hB := hb1.size
    have HOwn := Lib.hid hown
    clear hown hb2
    go_loopg [4, 5] (rs.length + 1) (fun gk i j wr => ∃ (k : Nat) (ys : List Nat), i = .int .i64 k ∧ j = .int .i64 ((rs.length : Int) - 1 - k) ∧ Hid (Turned rs ys k) ∧ 2 * k ≤ rs.length ∧ rs.length - k < gk ∧
      Hid (wr.ownsRow w1.heap.size 21 1 (.slice ao rs.length cap) rs.length (cells ys)) ∧ Below w.heap.size w wr)
    case atStart => exact ⟨0, rs, rfl, by simp, Turned.zero rs, by omega, by omega, HOwn, hc2⟩
    case round =>
      obtain ⟨k, ys, rfl, rfl, hturn, hk, hg, hown, hb⟩ := hrel
      clear HOwn
      by_cases hlt : 2 * k + 1 < rs.length
      · obtain ⟨g, hgB, rfl⟩ := owns_some hown.out (by omega)
        obtain ⟨gk, rfl⟩ : ∃ m, gk = m + 1 := ⟨gk - 1, by omega⟩
        have hyl := hturn.out.1
        obtain ⟨a, ha⟩ : ∃ a, ys[k]'(by omega) = a := ⟨_, rfl⟩
        obtain ⟨b, hbb⟩ : ∃ b, ys[rs.length - 1 - k]'(by omega) = b := ⟨_, rfl⟩
        have hc1 := cellOf hown.out k (by omega)
        have hc2 := cellOf hown.out (rs.length - 1 - k) (by omega)
        have hf := World.ownsRow.frozenAt hown.out
        rw [ha] at hc1
        rw [hbb] at hc2
        go_wp2
        go_region
        go_wp2
        go_roundg gk
        case rel =>
          refine ⟨k + 1, (ys.set k b).set (rs.length - 1 - k) a, by go_num, by go_num, hturn.out.step hlt a b (by rw [← ha]; exact List.getElem?_eq_getElem _) (by rw [← hbb]; exact List.getElem?_eq_getElem _), by omega, by omega, ?_, ?_⟩
          · have h := ((World.ownsRow.stored hown.out k (.int .i32 b)).1.stored (rs.length - 1 - k) (.int .i32 a)).1.drew
            rw [cells_set, cells_set] at h
            exact h
          · exact ((hb.setCell (p := ⟨g, k, none⟩) (Nat.le_trans hB hgB) _).setCell (p := ⟨g, rs.length - 1 - k, none⟩) (Nat.le_trans hB hgB) _).drew
        case measure => omega
      · have e := hturn.out.done (by omega)
        subst e
        have hlt2 : ¬ ((k : Int) < (rs.length : Int) - 1 - k) := by omega
        have hTr := hT.below hb
        go_wp2_with (first
          | (go_at_call_of 18 (Value.string (txt (enc rs))); refine (implReverse_any rs _ hs (by omega) hTr).mono ?_; rintro e w3 ⟨rfl, hb3⟩)
          | (go_at_call 20; refine (text_any rs.reverse _ hs.rev (owns_below hown.out hb3)).mono ?_; rintro e w4 ⟨rfl, rfl⟩)
          | (go_at_call 18; refine (reverse_ab _ (hTr.below hb3)).mono ?_; rintro e w5 ⟨rfl, hb5⟩))
        go_ret
        exact ⟨rfl, (hb.trans (hb3.mono hb.size)).trans (hb5.mono (hb.trans (hb3.mono hb.size)).size)⟩

end Go.Proofs.YtodablchamiaeaaDoor
