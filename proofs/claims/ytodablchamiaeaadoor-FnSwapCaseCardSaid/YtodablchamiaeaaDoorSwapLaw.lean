/- The law FnSwapCase: its walk. -/
import Derived.Test.YtodablchamiaeaaDoorSwap
import Derived.Deep.RegionWith
namespace Go.Proofs.YtodablchamiaeaaDoor
open Go.RowKit U8
open Go.Lib hiding intOf

set_option maxHeartbeats 3200000 in
set_option maxRecDepth 100000 in
theorem law_swapCase (s : ByteArray) (w : World) (hsz : s.size ≤ 140737488351232) (hT : Tabs w) (hP : Props w) :
    Calls Tryd.prog 15 #[.string s] w fun e w' => e = .returned (.bool true) ∧ Below w.heap.size w w' := by
  by_cases hbig : 2147483647 < s.size
  · go_enter Tryd.func15, Tryd.ntmps15
    go_wp2
    go_ret
    exact ⟨rfl, Below.refl _ _⟩
  have hle : s.size ≤ 2147483647 := by omega
  clear hbig hsz
  rcases pl_cases s with hok | ⟨rs, ha, rfl, hlen, hok⟩
  · go_enter Tryd.func15, Tryd.ntmps15
    go_wp2_with fail
    refine (plain_no s _ hle hok).mono ?_
    rintro e w1 ⟨rfl, hb1⟩
    go_wp2_with fail
    refine (swap_ab _ (hT.below hb1) (hP.below hb1)).mono ?_
    rintro e w2 ⟨rfl, hb2⟩
    go_wp2
    go_ret
    exact ⟨rfl, chain hb1 hb2⟩
  have HV := Lib.hid fun W => plain_yes rs W (by rw [asc_len ha]; exact hlen) hok
  have cI := Lib.hid fun W (h : Tabs W) (k : Props W) => implSwap_any rs W ha (by omega) h k
  have HSW := Lib.hid (enc_swap ha)
  clear hok
  have hell := asc_len ha
  obtain ⟨l, hl⟩ : ∃ l, enc rs = l := ⟨_, rfl⟩
  rw [hl] at hle HV cI HSW hell ⊢
  clear hl
  have hcv := fun W => run_text_bytes W (txt l)
  have hll := txt_size l
  have hl4 : l.length ≤ 4096 := by omega
  clear hell
  go_enter Tryd.func15, Tryd.ntmps15
  go_wp2_with fail
  refine (HV.out _).mono ?_
  rintro e w1 ⟨rfl, hb1⟩
  go_wp2
  have hb0 : Below w.heap.size w (bytesWorld w1 5 (txt l)) := bytesWorld_below hb1 hb1.size _ _
  have hc0 : ∀ j, j < l.length → (bytesWorld w1 5 (txt l)).cell? ⟨w1.heap.size, j, none⟩ = (byteCells l)[j]? := fun j hj => by
    rw [bytesWorld_cell w1 _ (txt l) j (by rw [txt_size]; exact hj), byteCells_get, txt_list, List.getElem?_eq_getElem hj]
    simp [List.getD, List.getElem?_eq_getElem hj]
  have hf0 : ∀ j, j < l.length → (bytesWorld w1 5 (txt l)).frozen? ⟨w1.heap.size, j, none⟩ = false := fun j hj => row_frozen w1 (txt l) j (by rw [txt_size]; exact hj)
  have hz0 : w1.heap.size < (bytesWorld w1 5 (txt l)).heap.size := by rw [bytesWorld_size]; omega
  have hk1 := hb1.size
  have HC := Lib.hid hc0
  have HF := Lib.hid hf0
  clear hc0 hf0
  generalize bytesWorld w1 5 (txt l) = wb at *
  generalize grownCap w1 l.length 0 5 = cap at *
  go_loopg [17] (l.length + 1) (fun gk i wr => ∃ k : Nat, k ≤ l.length ∧ i = .int .i64 k ∧ Hid (∀ j, j < l.length → wr.cell? ⟨w1.heap.size, j, none⟩ = (byteCells ((l.take k).map swB ++ l.drop k))[j]?) ∧ Hid (∀ j, j < l.length → wr.frozen? ⟨w1.heap.size, j, none⟩ = false) ∧ l.length - k < gk ∧ w1.heap.size < wr.heap.size ∧ Below w.heap.size w wr)
  case atStart => exact ⟨0, by omega, rfl, by show ∀ j, j < l.length → _; simpa using HC.out, HF.out, by omega, hz0, hb0⟩
  case round =>
    obtain ⟨k, hk, rfl, hc, hf, hg, hz, hb⟩ := hrel
    by_cases hkl : k < l.length
    · obtain ⟨b, hbk⟩ : ∃ b, l[k]? = some b := ⟨l[k], List.getElem?_eq_getElem hkl⟩
      have hck : wr.cell? ⟨w1.heap.size, k, none⟩ = some (.int .u8 b.toNat) := by
        rw [hc.out k hkl, byteCells_get, List.getElem?_append_right (by simp; omega)]
        simp [Nat.min_eq_left hk, hbk]
      have hfk := hf.out k hkl
      have HB := Lib.hid hbk
      clear hbk
      obtain ⟨gk, rfl⟩ : ∃ m, gk = m + 1 := ⟨gk - 1, by omega⟩
      have hb256 := b.toNat_lt
      obtain ⟨x, hx⟩ : ∃ x, b.toNat = x := ⟨_, rfl⟩
      rw [hx] at hck hb256
      have HX := Lib.hid hx
      clear hx
      have HADV := Lib.hid (adv_set swB l k b HB.out)
      have hlen : ((l.take k).map swB ++ l.drop k).length = l.length := by simp; omega
      have HLEN := Lib.hid hlen
      clear hlen
      by_cases c1 : x < 65
      · go_wp2
        go_roundg gk
        case rel =>
          refine ⟨k + 1, by omega, by go_num, ?_, hf, by omega, hz, hb⟩
          show ∀ j, j < l.length → _
          intro j hj
          have hub : swB b = b := by unfold swB; rw [HX.out, if_neg (by omega), if_neg (by omega)]
          rw [hc.out j hj, HADV.out, cells_set _ _ _ _ (by rw [HLEN.out]; exact hj), hub]
          by_cases h : k = j
          · rw [if_pos h, ← h, ← hc.out k hkl, hck, HX.out]
          · rw [if_neg h]
        case measure => omega
      by_cases c2 : x ≤ 90
      · have c1 : 65 ≤ x := by omega
        go_wp2
        go_roundg gk
        case rel =>
          refine ⟨k + 1, by omega, by go_num, ?_, ?_, by omega, by simpa using hz, hb.setCell (p := ⟨w1.heap.size, k, none⟩) hk1 _⟩
          · show ∀ j, j < l.length → _
            intro j hj
            have hub : swB b = (x + 32).toUInt8 := by unfold swB; rw [HX.out, if_neg (by omega), if_pos (by omega)]
            rw [HADV.out, cells_set _ _ _ _ (by rw [HLEN.out]; exact hj)]
            by_cases h : k = j
            · rw [if_pos h, ← h, World.cell?_setCell_same _ _ _ hck, hub, u8_toNat (by omega), show ((x : Int) + 32) = ((x + 32 : Nat) : Int) by omega]
            · rw [if_neg h, World.cell?_setCell_other _ _ _ _ (fun e => h (congrArg Addr.off e))]
              exact hc.out j hj
          · show ∀ j, j < l.length → _
            intro j hj
            rw [World.frozen?_setCell]; exact hf.out j hj
        case measure => omega
      by_cases c3 : x < 97
      · have c2 : 90 < x := by omega
        go_wp2
        go_roundg gk
        case rel =>
          refine ⟨k + 1, by omega, by go_num, ?_, hf, by omega, hz, hb⟩
          show ∀ j, j < l.length → _
          intro j hj
          have hub : swB b = b := by unfold swB; rw [HX.out, if_neg (by omega), if_neg (by omega)]
          rw [hc.out j hj, HADV.out, cells_set _ _ _ _ (by rw [HLEN.out]; exact hj), hub]
          by_cases h : k = j
          · rw [if_pos h, ← h, ← hc.out k hkl, hck, HX.out]
          · rw [if_neg h]
        case measure => omega
      by_cases c4 : x ≤ 122
      · have c3 : 97 ≤ x := by omega
        go_wp2
        go_roundg gk
        case rel =>
          refine ⟨k + 1, by omega, by go_num, ?_, ?_, by omega, by simpa using hz, hb.setCell (p := ⟨w1.heap.size, k, none⟩) hk1 _⟩
          · show ∀ j, j < l.length → _
            intro j hj
            have hub : swB b = (x - 32).toUInt8 := by unfold swB; rw [HX.out, if_pos (by omega)]
            rw [HADV.out, cells_set _ _ _ _ (by rw [HLEN.out]; exact hj)]
            by_cases h : k = j
            · rw [if_pos h, ← h, World.cell?_setCell_same _ _ _ hck, hub, u8_toNat (by omega), show ((x : Int) - 32) = ((x - 32 : Nat) : Int) by omega]
            · rw [if_neg h, World.cell?_setCell_other _ _ _ _ (fun e => h (congrArg Addr.off e))]
              exact hc.out j hj
          · show ∀ j, j < l.length → _
            intro j hj
            rw [World.frozen?_setCell]; exact hf.out j hj
        case measure => omega
      · have c4 : 122 < x := by omega
        go_wp2
        go_roundg gk
        case rel =>
          refine ⟨k + 1, by omega, by go_num, ?_, hf, by omega, hz, hb⟩
          show ∀ j, j < l.length → _
          intro j hj
          have hub : swB b = b := by unfold swB; rw [HX.out, if_neg (by omega), if_neg (by omega)]
          rw [hc.out j hj, HADV.out, cells_set _ _ _ _ (by rw [HLEN.out]; exact hj), hub]
          by_cases h : k = j
          · rw [if_pos h, ← h, ← hc.out k hkl, hck, HX.out]
          · rw [if_neg h]
        case measure => omega
    · obtain rfl : k = l.length := by omega
      have hcv2 : ∀ W, Below wr.heap.size wr W → (convert 46 9 (.slice (some ⟨w1.heap.size, 0, none⟩) l.length cap)).run Tryd.prog W = .ok (.string (txt (l.map swB))) W := fun W hW => by
        refine run_bytes_text (l.map swB) (by simp) fun j hj => ?_
        rw [hW.cell hz, hc.out j hj, List.take_length, List.drop_length, List.append_nil]
      rw [HSW.out] at hcv2
      have hcv3 := hcv2 wr.drew (Below.refl _ _).drew
      have hd1 : Below w.heap.size w wr.drew := hb.drew
      have hd2 : Below wr.heap.size wr wr.drew := (Below.refl _ _).drew
      have HCV := Lib.hid hcv2
      clear hcv2 hc hf hb0 hb1 hb hcv
      go_wp2_with fail
      go_region_with (go_at_call 44; first
        | (refine (cI.out _ (hT.below (by assumption)) (hP.below (by assumption))).mono ?_; rintro e wn ⟨rfl, hbn⟩; have hB := chain (w := w) (by assumption) hbn; have hB2 := chain (w := wr) (by assumption) hbn; have hcn := HCV.out _ hB2)
        | (refine (swap_ab _ (hT.below (by assumption)) (hP.below (by assumption))).mono ?_; rintro e wn ⟨rfl, hbn⟩; have hB := chain (w := w) (by assumption) hbn; have hB2 := chain (w := wr) (by assumption) hbn; have hcn := HCV.out _ hB2))
      all_goals (go_wp2; go_ret; exact ⟨rfl, by assumption⟩)

end Go.Proofs.YtodablchamiaeaaDoor
