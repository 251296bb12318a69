/- The law FnFirst: its walk. -/
import Derived.Test.YtodablchamiaeaaDoorAscii
import Derived.Deep.RegionWith
namespace Go.Proofs.YtodablchamiaeaaDoor
open Go.RowKit U8
open Go.Lib hiding intOf

def upN (r : Nat) : Nat := if 97 ≤ r ∧ r ≤ 122 then r - 32 else r
def loN (r : Nat) : Nat := if 65 ≤ r ∧ r ≤ 90 then r + 32 else r
theorem upN_int (r : Nat) : ((upN r : Nat) : Int) = toUpperR r := by
  unfold upN toUpperR
  by_cases h : 97 ≤ r ∧ r ≤ 122
  · rw [if_pos h, if_pos (by omega)]; omega
  · rw [if_neg h, if_neg (by omega)]
theorem loN_int (r : Nat) : ((loN r : Nat) : Int) = toLowerR r := by
  unfold loN toLowerR
  by_cases h : 65 ≤ r ∧ r ≤ 90
  · rw [if_pos h, if_pos (by omega)]; omega
  · rw [if_neg h, if_neg (by omega)]
theorem upN_lt {r : Nat} (h : r < 128) : upN r < 128 := by unfold upN; split <;> omega
theorem loN_lt {r : Nat} (h : r < 128) : loN r < 128 := by unfold loN; split <;> omega
theorem upB_of {r : Nat} (h : r < 128) : upB r.toUInt8 = (upN r).toUInt8 := by
  unfold upB upN
  rw [u8_toNat (by omega)]
  by_cases k : 97 ≤ r ∧ r ≤ 122
  · rw [if_pos k, if_pos k]
  · rw [if_neg k, if_neg k]
theorem loB_of {r : Nat} (h : r < 128) : loB r.toUInt8 = (loN r).toUInt8 := by
  unfold loB loN
  rw [u8_toNat (by omega)]
  by_cases k : 65 ≤ r ∧ r ≤ 90
  · rw [if_pos k, if_pos k]
  · rw [if_neg k, if_neg k]
theorem upper_one (r : Nat) (w : World) (h : r < 128) :
    Calls Tryd.prog 39 #[.string (txt (enc1 r))] w fun e w' => e = .returned (.string (txt (enc1 (upN r)))) ∧ Below w.heap.size w w' := by
  have := upper_any (enc1 r) w (by have := enc1_le r; omega)
  rw [enc1_asc h, List.map_cons, List.map_nil, upB_of h, ← enc1_asc (upN_lt h), ← enc1_asc h] at this
  exact this
theorem lower_one (r : Nat) (w : World) (h : r < 128) :
    Calls Tryd.prog 40 #[.string (txt (enc1 r))] w fun e w' => e = .returned (.string (txt (enc1 (loN r)))) ∧ Below w.heap.size w w' := by
  have := lower_any (enc1 r) w (by have := enc1_le r; omega)
  rw [enc1_asc h, List.map_cons, List.map_nil, loB_of h, ← enc1_asc (loN_lt h), ← enc1_asc h] at this
  exact this

theorem bld_new (B : Nat) (W : World) (hB : B ≤ W.heap.size) : Bld B W.heap.size [] (W.alloc (.cells #[.pointer none, .slice none 0 0] 66)) :=
  .inl ⟨hB, .slice none 0 0, heap_alloc_new W _, World.ownsRowF_nil _ _ _ _, by simp [Value.ownBlock]⟩

set_option maxHeartbeats 800000 in
set_option maxRecDepth 100000 in
theorem firstUpper_any (r : Nat) (rs : List Nat) (w : World) (h : r < 128) (hl : (enc (r :: rs)).length ≤ 1000000) (hT : Tabs w) :
    Calls Tryd.prog 63 #[.string (txt (enc (r :: rs)))] w fun e w' => e = .returned (.string (txt (enc (upN r :: rs)))) ∧ Below w.heap.size w w' := by
  have hr : Sc r := by unfold Sc; omega
  have hr2 : Sc (upN r) := by have := upN_lt h; unfold Sc; omega
  have hri := hr.i32
  have hri2 := hr2.i32
  have hsz := enc_size_pos r rs
  have hne : (txt (enc (r :: rs))).toList.isEmpty = false := by rw [txt_toList, enc_cons, enc1_asc h]; rfl
  have hple := enc1_size_le r rs
  have hskip := rest_enc r rs
  have hsz2 : (txt (enc (r :: rs))).size ≤ 1000000 := by rw [txt_size]; exact hl
  have hlr : (enc rs).length ≤ 1000000 := by rw [enc_cons, List.length_append] at hl; omega
  have cD := Lib.hid (dec_any r rs w hr hT)
  have cU := Lib.hid fun W => upN_int r ▸ Tryd.unicode_ToUpper r W (by omega)
  have HE : Hid (∀ q, q = upN r → enc1 q ++ enc rs = enc (upN r :: rs)) := fun q hq => by rw [hq, enc_cons]
  obtain ⟨q, hq⟩ : ∃ q, upN r = q := ⟨_, rfl⟩
  have HQ := Lib.hid hq
  rw [hq] at cU hri2 hr2
  clear hq
  by_cases hqr : q = r
  · have hqi : ((q : Int) == (r : Int)) = true := by simp [hqr]
    have HQR := Lib.hid hqr
    clear hqr
    go_enter Tryd.func63, Tryd.ntmps63
    go_wp2_with (first
      | (go_at_call 52; refine cD.out.mono ?_; rintro e w1 ⟨rfl, hb1⟩)
      | (go_at_call 81; refine (cU.out _).mono ?_; rintro e w1 ⟨rfl, rfl⟩))
    go_ret
    exact ⟨by rw [HQ.out, HQR.out]; rfl, hb1⟩
  · have hqi : ((q : Int) == (r : Int)) = false := by simp; omega
    have HQR := Lib.hid hqr
    clear hqr
    go_enter Tryd.func63, Tryd.ntmps63
    go_wp2_with (first
      | (go_at_call 52; refine cD.out.mono ?_; rintro e w1 ⟨rfl, hb1⟩)
      | (go_at_call 81; refine (cU.out _).mono ?_; rintro e w1 ⟨rfl, rfl⟩)
      | (go_at_call 82; refine (bld_rune w.heap.size w1.heap.size [] q _ (bld_new _ _ hb1.size) hr2 (by simp) (by have := hb1.size; simp; omega)).mono ?_; rintro e w3 ⟨rfl, hbl3, hb3, _⟩)
      | (go_at_call 74; refine (bld_write w.heap.size w1.heap.size _ (enc rs) _ hbl3 (by have := enc1_le q; simp; omega) ((hb1.alloc hb1.size _).trans hb3).size).mono ?_; rintro e w4 ⟨rfl, hbl4, hb4, _⟩)
      | (go_at_call 75; refine (bld_string w.heap.size w1.heap.size _ _ hbl4 (((hb1.alloc hb1.size _).trans hb3).trans hb4).size).mono ?_; rintro e w5 ⟨rfl, _, hb5, _⟩))
    go_ret
    exact ⟨by rw [← HE.out q HQ.out.symm]; rfl, (((hb1.alloc hb1.size _).trans hb3).trans hb4).trans hb5⟩
theorem implUpper_any (r : Nat) (rs : List Nat) (w : World) (h : r < 128) (hl : (enc (r :: rs)).length ≤ 1000000) (hT : Tabs w) :
    Calls Tryd.prog 37 #[.string (txt (enc (r :: rs)))] w fun e w' => e = .returned (.string (txt (enc (upN r :: rs)))) ∧ Below w.heap.size w w' := by
  go_enter Tryd.func37, Tryd.ntmps37
  go_wp2_with (go_at_call 63; refine (firstUpper_any r rs _ h hl hT).mono ?_; rintro e w' ⟨rfl, hb⟩)
  go_ret
  exact ⟨rfl, hb⟩
theorem implUpper_nil (w : World) :
    Calls Tryd.prog 37 #[.string ⟨#[]⟩] w fun e w' => e = .returned (.string ⟨#[]⟩) ∧ Below w.heap.size w w' := by
  go_enter Tryd.func37, Tryd.ntmps37
  go_wp2_with go_in
  go_ret
  exact ⟨rfl, Below.refl _ _⟩
theorem upper_ab (w : World) (hT : Tabs w) :
    Calls Tryd.prog 37 #[.string ⟨#[97, 98]⟩] w fun e w' => e = .returned (.string ⟨#[65, 98]⟩) ∧ Below w.heap.size w w' :=
  implUpper_any 97 [98] w (by decide) (by decide) hT

set_option maxHeartbeats 800000 in
set_option maxRecDepth 100000 in
theorem firstLower_any (r : Nat) (rs : List Nat) (w : World) (h : r < 128) (hl : (enc (r :: rs)).length ≤ 1000000) (hT : Tabs w) :
    Calls Tryd.prog 64 #[.string (txt (enc (r :: rs)))] w fun e w' => e = .returned (.string (txt (enc (loN r :: rs)))) ∧ Below w.heap.size w w' := by
  have hr : Sc r := by unfold Sc; omega
  have hr2 : Sc (loN r) := by have := loN_lt h; unfold Sc; omega
  have hri := hr.i32
  have hri2 := hr2.i32
  have hsz := enc_size_pos r rs
  have hne : (txt (enc (r :: rs))).toList.isEmpty = false := by rw [txt_toList, enc_cons, enc1_asc h]; rfl
  have hple := enc1_size_le r rs
  have hskip := rest_enc r rs
  have hsz2 : (txt (enc (r :: rs))).size ≤ 1000000 := by rw [txt_size]; exact hl
  have hlr : (enc rs).length ≤ 1000000 := by rw [enc_cons, List.length_append] at hl; omega
  have cD := Lib.hid (dec_any r rs w hr hT)
  have cL := Lib.hid fun W => loN_int r ▸ Tryd.unicode_ToLower r W (by omega)
  have HE : Hid (∀ q, q = loN r → enc1 q ++ enc rs = enc (loN r :: rs)) := fun q hq => by rw [hq, enc_cons]
  obtain ⟨q, hq⟩ : ∃ q, loN r = q := ⟨_, rfl⟩
  have HQ := Lib.hid hq
  rw [hq] at cL hri2 hr2
  clear hq
  by_cases hqr : q = r
  · have hqi : ((q : Int) == (r : Int)) = true := by simp [hqr]
    have HQR := Lib.hid hqr
    clear hqr
    go_enter Tryd.func64, Tryd.ntmps64
    go_wp2_with (first
      | (go_at_call 52; refine cD.out.mono ?_; rintro e w1 ⟨rfl, hb1⟩)
      | (go_at_call 83; refine (cL.out _).mono ?_; rintro e w1 ⟨rfl, rfl⟩))
    go_ret
    exact ⟨by rw [HQ.out, HQR.out]; rfl, hb1⟩
  · have hqi : ((q : Int) == (r : Int)) = false := by simp; omega
    have HQR := Lib.hid hqr
    clear hqr
    go_enter Tryd.func64, Tryd.ntmps64
    go_wp2_with (first
      | (go_at_call 52; refine cD.out.mono ?_; rintro e w1 ⟨rfl, hb1⟩)
      | (go_at_call 83; refine (cL.out _).mono ?_; rintro e w1 ⟨rfl, rfl⟩)
      | (go_at_call 82; refine (bld_rune w.heap.size w1.heap.size [] q _ (bld_new _ _ hb1.size) hr2 (by simp) (by have := hb1.size; simp; omega)).mono ?_; rintro e w3 ⟨rfl, hbl3, hb3, _⟩)
      | (go_at_call 74; refine (bld_write w.heap.size w1.heap.size _ (enc rs) _ hbl3 (by have := enc1_le q; simp; omega) ((hb1.alloc hb1.size _).trans hb3).size).mono ?_; rintro e w4 ⟨rfl, hbl4, hb4, _⟩)
      | (go_at_call 75; refine (bld_string w.heap.size w1.heap.size _ _ hbl4 (((hb1.alloc hb1.size _).trans hb3).trans hb4).size).mono ?_; rintro e w5 ⟨rfl, _, hb5, _⟩))
    go_ret
    exact ⟨by rw [← HE.out q HQ.out.symm]; rfl, (((hb1.alloc hb1.size _).trans hb3).trans hb4).trans hb5⟩
theorem implLower_any (r : Nat) (rs : List Nat) (w : World) (h : r < 128) (hl : (enc (r :: rs)).length ≤ 1000000) (hT : Tabs w) :
    Calls Tryd.prog 38 #[.string (txt (enc (r :: rs)))] w fun e w' => e = .returned (.string (txt (enc (loN r :: rs)))) ∧ Below w.heap.size w w' := by
  go_enter Tryd.func38, Tryd.ntmps38
  go_wp2_with (go_at_call 64; refine (firstLower_any r rs _ h hl hT).mono ?_; rintro e w' ⟨rfl, hb⟩)
  go_ret
  exact ⟨rfl, hb⟩
theorem implLower_nil (w : World) :
    Calls Tryd.prog 38 #[.string ⟨#[]⟩] w fun e w' => e = .returned (.string ⟨#[]⟩) ∧ Below w.heap.size w w' := by
  go_enter Tryd.func38, Tryd.ntmps38
  go_wp2_with go_in
  go_ret
  exact ⟨rfl, Below.refl _ _⟩
theorem lower_ab (w : World) (hT : Tabs w) :
    Calls Tryd.prog 38 #[.string ⟨#[65, 66]⟩] w fun e w' => e = .returned (.string ⟨#[97, 66]⟩) ∧ Below w.heap.size w w' :=
  implLower_any 65 [66] w (by decide) (by decide) hT

set_option maxHeartbeats 3200000 in
set_option maxRecDepth 100000 in
theorem law_first (s : ByteArray) (w : World) (hsz : s.size ≤ 140737488351232) (hT : Tabs w) :
    Calls Tryd.prog 12 #[.string s] w fun e w' => e = .returned (.bool true) ∧ Below w.heap.size w w' := by
  by_cases hbig : 2147483647 < s.size
  · go_enter Tryd.func12, Tryd.ntmps12
    go_wp2
    go_ret
    exact ⟨rfl, Below.refl _ _⟩
  have hle : s.size ≤ 2147483647 := by omega
  clear hbig hsz
  rcases pl_cases s with hok | ⟨rs, ha, rfl, hlen, hok⟩
  · have hse : s.toList.isEmpty = false := by
      cases hq : s.toList with
      | nil =>
        exfalso
        rw [Go.Lib.toList_data] at hq
        unfold plB at hok
        rw [hq] at hok
        have h0 : s.size = 0 := by rw [size_list, hq]; rfl
        simp [h0] at hok
      | cons a t => rfl
    by_cases h4 : 4096 < s.size
    · go_enter Tryd.func12, Tryd.ntmps12
      go_wp2_with fail
      refine (upper_ab _ hT).mono ?_
      rintro e w1 ⟨rfl, hb1⟩
      go_wp2_with fail
      refine (lower_ab _ (hT.below hb1)).mono ?_
      rintro e w2 ⟨rfl, hb2⟩
      have hc2 := chain hb1 hb2
      go_wp2_with fail
      refine (plain_no s _ hle hok).mono ?_
      rintro e w3 ⟨rfl, hb3⟩
      go_wp2_with go_in
      go_ret
      exact ⟨rfl, chain hc2 hb3⟩
    · go_enter Tryd.func12, Tryd.ntmps12
      go_wp2_with fail
      refine (upper_ab _ hT).mono ?_
      rintro e w1 ⟨rfl, hb1⟩
      go_wp2_with fail
      refine (lower_ab _ (hT.below hb1)).mono ?_
      rintro e w2 ⟨rfl, hb2⟩
      have hc2 := chain hb1 hb2
      go_wp2_with fail
      refine (plain_no s _ hle hok).mono ?_
      rintro e w3 ⟨rfl, hb3⟩
      go_wp2_with go_in
      go_ret
      exact ⟨rfl, chain hc2 hb3⟩
  have HV := Lib.hid fun W => plain_yes rs W (by rw [asc_len ha]; exact hlen) hok
  clear hok
  cases rs with
  | nil =>
    have HV2 : Hid (∀ W, Calls Tryd.prog 34 #[.string ⟨#[]⟩] W fun e w' => e = .returned (.bool true) ∧ Below W.heap.size W w') := HV
    show Calls Tryd.prog 12 #[.string ⟨#[]⟩] w _
    clear HV hle
    go_enter Tryd.func12, Tryd.ntmps12
    go_wp2_with fail
    refine (upper_ab _ hT).mono ?_
    rintro e w1 ⟨rfl, hb1⟩
    go_wp2_with fail
    refine (lower_ab _ (hT.below hb1)).mono ?_
    rintro e w2 ⟨rfl, hb2⟩
    have hc2 := chain hb1 hb2
    go_wp2_with fail
    refine (HV2.out _).mono ?_
    rintro e w3 ⟨rfl, hb3⟩
    have hc3 := chain hc2 hb3
    go_wp2_with (first
      | (go_at_call 37; refine (implUpper_nil _).mono ?_; rintro e w4 ⟨rfl, hb4⟩)
      | (go_at_call 38; refine (implLower_nil _).mono ?_; rintro e w5 ⟨rfl, hb5⟩)
      | go_in)
    go_ret
    exact ⟨rfl, chain (chain hc3 hb4) hb5⟩
  | cons r rs =>
    have hr := ha.head
    have hel := asc_len ha
    have cU := Lib.hid fun W (h : Tabs W) => implUpper_any r rs W hr (by omega) h
    have cL := Lib.hid fun W (h : Tabs W) => implLower_any r rs W hr (by omega) h
    have HE1 : Hid (txt (enc1 (upN r)) ++ txt (enc rs) = txt (enc (upN r :: rs))) := by show _ = _; rw [txt_append, enc_cons]
    have HE2 : Hid (txt (enc1 (loN r)) ++ txt (enc rs) = txt (enc (loN r :: rs))) := by show _ = _; rw [txt_append, enc_cons]
    have hskip : (txt (enc (r :: rs))).extract 1 (txt (enc (r :: rs))).size = txt (enc rs) := by have := rest_enc r rs; rwa [enc1_asc hr] at this
    have htake : (txt (enc (r :: rs))).extract 0 1 = txt (enc1 r) := by have := head_enc r rs; rw [enc1_asc hr] at this ⊢; exact this
    have hsz := enc_size_pos r rs
    have hne : (txt (enc (r :: rs))).toList.isEmpty = false := by rw [txt_toList, enc_cons, enc1_asc hr]; rfl
    have hs4 : (txt (enc (r :: rs))).size ≤ 4096 := by rw [txt_size]; omega
    go_enter Tryd.func12, Tryd.ntmps12
    go_wp2_with fail
    refine (upper_ab _ hT).mono ?_
    rintro e w1 ⟨rfl, hb1⟩
    go_wp2_with fail
    refine (lower_ab _ (hT.below hb1)).mono ?_
    rintro e w2 ⟨rfl, hb2⟩
    have hc2 := chain hb1 hb2
    go_wp2_with fail
    refine (HV.out _).mono ?_
    rintro e w3 ⟨rfl, hb3⟩
    have hc3 := chain hc2 hb3
    have hc3 := hc3.drew
    have cu := Lib.hid fun W => upper_one r W hr
    have cl := Lib.hid fun W => lower_one r W hr
    have hcat1 : (txt (enc1 (upN r))).size + (txt (enc rs)).size ≤ 1000000 := by have := enc1_le (upN r); rw [enc_cons, List.length_append] at hel; rw [txt_size, txt_size]; omega
    have hcat2 : (txt (enc1 (loN r))).size + (txt (enc rs)).size ≤ 1000000 := by have := enc1_le (loN r); rw [enc_cons, List.length_append] at hel; rw [txt_size, txt_size]; omega
    have he1 := HE1.out
    have he2 := HE2.out
    clear hb1 hb2 hb3 hc2 hel hlen
    go_wp2_with fail
    go_region_with (first
      | (go_at_call 37; refine (cU.out _ (hT.below (by assumption))).mono ?_; rintro e wn ⟨rfl, hb⟩; have := chain (w := w) (by assumption) hb)
      | (go_at_call 38; refine (cL.out _ (hT.below (by assumption))).mono ?_; rintro e wn ⟨rfl, hb⟩; have := chain (w := w) (by assumption) hb)
      | (go_at_call 39; refine (cu.out _).mono ?_; rintro e wn ⟨rfl, hb⟩; have := chain (w := w) (by assumption) hb)
      | (go_at_call 40; refine (cl.out _).mono ?_; rintro e wn ⟨rfl, hb⟩; have := chain (w := w) (by assumption) hb))
    all_goals (go_wp2; go_ret; exact ⟨rfl, by assumption⟩)

end Go.Proofs.YtodablchamiaeaaDoor
