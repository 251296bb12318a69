/- Texts of ASCII alone at the seat of cases: laws.plain, laws.upper, laws.lower, laws.swapped, laws.separated. -/
import Derived.Test.YthanbbflemkomaaDoorCBld
namespace Go.Proofs.YthanbbflemkomaaDoor
open Go.RowKit U8
open Go.Lib hiding intOf

def plB (s : ByteArray) : Bool := s.data.toList.all (fun b => decide (b.toNat < 128)) && decide (s.size ≤ 4096)
theorem pl_cases (s : ByteArray) : plB s = false ∨ ∃ rs, asc rs ∧ s = txt (enc rs) ∧ rs.length ≤ 4096 ∧ plB s = true := by
  by_cases h : plB s = true
  · right
    have h' := h
    unfold plB at h
    simp only [Bool.and_eq_true, List.all_eq_true, decide_eq_true_eq] at h
    have ha : asc (s.data.toList.map UInt8.toNat) := fun r hr => by
      obtain ⟨b, hb, rfl⟩ := List.mem_map.1 hr
      exact h.1 b hb
    refine ⟨s.data.toList.map UInt8.toNat, ha, ?_, ?_, h'⟩
    · rw [enc_asc ha, List.map_map]
      have : s.data.toList.map (Nat.toUInt8 ∘ UInt8.toNat) = s.data.toList := (List.map_congr_left (fun b _ => by simp)).trans (List.map_id _)
      rw [this, list_txt]
    · rw [List.length_map, ← size_list]; exact h.2
  · left; simpa using h
def upB (b : UInt8) : UInt8 := if 97 ≤ b.toNat ∧ b.toNat ≤ 122 then (b.toNat - 32).toUInt8 else b
def loB (b : UInt8) : UInt8 := if 65 ≤ b.toNat ∧ b.toNat ≤ 90 then (b.toNat + 32).toUInt8 else b
theorem split_at {α : Type} (l : List α) (k : Nat) (b : α) (hb : l[k]? = some b) : ∃ p t, l = p ++ b :: t ∧ p.length = k := by
  have hk := (List.getElem?_eq_some_iff.1 hb).1
  refine ⟨l.take k, l.drop (k + 1), ?_, by rw [List.length_take]; omega⟩
  have e := (List.getElem?_eq_some_iff.1 hb).2
  rw [← e, ← List.drop_eq_getElem_cons hk, List.take_append_drop]
theorem adv_set (f : UInt8 → UInt8) (l : List UInt8) (k : Nat) (b : UInt8) (hb : l[k]? = some b) :
    (l.take (k + 1)).map f ++ l.drop (k + 1) = ((l.take k).map f ++ l.drop k).set k (f b) := by
  obtain ⟨p, t, rfl, rfl⟩ := split_at l k b hb
  rw [List.take_length_add_append, List.drop_length_add_append, List.take_left, List.drop_left, List.set_append_right _ _ (by simp)]
  simp
theorem cells_set (l : List UInt8) (k j : Nat) (u : UInt8) (hj : j < l.length) : (byteCells (l.set k u))[j]? = if k = j then some (.int .u8 u.toNat) else (byteCells l)[j]? := by
  rw [byteCells_get, byteCells_get, List.getElem?_set]
  by_cases h : k = j
  · rw [if_pos h, if_pos h, if_pos (by omega)]; rfl
  · rw [if_neg h, if_neg h]
set_option maxHeartbeats 800000 in
set_option maxRecDepth 100000 in
theorem upper_any (l : List UInt8) (w : World) (hl : l.length ≤ 100000) :
    Calls Tryd.prog 9 #[.string (txt l)] w fun e w' => e = .returned (.string (txt (l.map upB))) ∧ Below w.heap.size w w' := by
  have hcv := fun W => run_text_bytes W (txt l)
  have hll := txt_size l
  go_enter Tryd.func9, Tryd.ntmps9
  go_wp2
  have hb0 : Below w.heap.size w (bytesWorld w 5 (txt l)) := bytesWorld_below (Below.refl _ _) (Nat.le_refl _) _ _
  have hc0 : ∀ j, j < l.length → (bytesWorld w 5 (txt l)).cell? ⟨w.heap.size, j, none⟩ = (byteCells l)[j]? := fun j hj => by
    rw [bytesWorld_cell w _ (txt l) j (by rw [txt_size]; exact hj), byteCells_get, txt_list, List.getElem?_eq_getElem hj]
    simp [List.getD, List.getElem?_eq_getElem hj]
  have hf0 : ∀ j, j < l.length → (bytesWorld w 5 (txt l)).frozen? ⟨w.heap.size, j, none⟩ = false := fun j hj => row_frozen w (txt l) j (by rw [txt_size]; exact hj)
  have HC := Lib.hid hc0
  have HF := Lib.hid hf0
  clear hc0 hf0
  generalize bytesWorld w 5 (txt l) = wb at *
  generalize grownCap w l.length 0 5 = cap at *
  go_loopg [9] (l.length + 1) (fun gk i wr => ∃ k : Nat, k ≤ l.length ∧ i = .int .i64 k ∧ Hid (∀ j, j < l.length → wr.cell? ⟨w.heap.size, j, none⟩ = (byteCells ((l.take k).map upB ++ l.drop k))[j]?) ∧ Hid (∀ j, j < l.length → wr.frozen? ⟨w.heap.size, j, none⟩ = false) ∧ l.length - k < gk ∧ Below w.heap.size w wr)
  case atStart => exact ⟨0, by omega, rfl, by show ∀ j, j < l.length → _; simpa using HC.out, HF.out, by omega, hb0⟩
  case round =>
    obtain ⟨k, hk, rfl, hc, hf, hg, hb⟩ := hrel
    by_cases hkl : k < l.length
    · obtain ⟨b, hbk⟩ : ∃ b, l[k]? = some b := ⟨l[k], List.getElem?_eq_getElem hkl⟩
      have hck : wr.cell? ⟨w.heap.size, k, none⟩ = some (.int .u8 b.toNat) := by
        rw [hc.out k hkl, byteCells_get, List.getElem?_append_right (by simp; omega)]
        simp [Nat.min_eq_left hk, hbk]
      have hfk := hf.out k hkl
      have HB := Lib.hid hbk
      clear hbk
      obtain ⟨gk, rfl⟩ : ∃ m, gk = m + 1 := ⟨gk - 1, by omega⟩
      have hb256 := b.toNat_lt
      obtain ⟨x, hx⟩ : ∃ x, b.toNat = x := ⟨_, rfl⟩
      rw [hx] at hck hb256
      have HX := Lib.hid hx
      clear hx
      have HADV := Lib.hid (adv_set upB l k b HB.out)
      have hlen : ((l.take k).map upB ++ l.drop k).length = l.length := by simp; omega
      have HLEN := Lib.hid hlen
      clear hlen
      by_cases hx1 : 97 ≤ x ∧ x ≤ 122
      · go_wp2
        go_roundg gk
        case rel =>
          refine ⟨k + 1, by omega, by go_num, ?_, ?_, by omega, hb.setCell (p := ⟨w.heap.size, k, none⟩) (Nat.le_refl _) _⟩
          · show ∀ j, j < l.length → _
            intro j hj
            have hub : upB b = (x - 32).toUInt8 := by unfold upB; rw [if_pos (by rw [HX.out]; exact hx1), HX.out]
            rw [HADV.out, cells_set _ _ _ _ (by rw [HLEN.out]; exact hj)]
            by_cases h : k = j
            · rw [if_pos h, ← h, World.cell?_setCell_same _ _ _ hck, hub, u8_toNat (by omega), show ((x : Int) - 32) = ((x - 32 : Nat) : Int) by omega]
            · rw [if_neg h, World.cell?_setCell_other _ _ _ _ (fun e => h (congrArg Addr.off e))]
              exact hc.out j hj
          · show ∀ j, j < l.length → _
            intro j hj
            rw [World.frozen?_setCell]; exact hf.out j hj
        case measure => omega
      by_cases hx2 : x < 97
      · clear hx1
        go_wp2
        go_roundg gk
        case rel =>
          refine ⟨k + 1, by omega, by go_num, ?_, hf, by omega, hb⟩
          show ∀ j, j < l.length → _
          intro j hj
          have hub : upB b = b := by unfold upB; rw [if_neg (by rw [HX.out]; omega)]
          rw [hc.out j hj, HADV.out, cells_set _ _ _ _ (by rw [HLEN.out]; exact hj), hub]
          by_cases h : k = j
          · rw [if_pos h, ← h, ← hc.out k hkl, hck, HX.out]
          · rw [if_neg h]
        case measure => omega
      · have hx3 : 122 < x := by omega
        clear hx1 hx2
        go_wp2
        go_roundg gk
        case rel =>
          refine ⟨k + 1, by omega, by go_num, ?_, hf, by omega, hb⟩
          show ∀ j, j < l.length → _
          intro j hj
          have hub : upB b = b := by unfold upB; rw [if_neg (by rw [HX.out]; omega)]
          rw [hc.out j hj, HADV.out, cells_set _ _ _ _ (by rw [HLEN.out]; exact hj), hub]
          by_cases h : k = j
          · rw [if_pos h, ← h, ← hc.out k hkl, hck, HX.out]
          · rw [if_neg h]
        case measure => omega
    · obtain rfl : k = l.length := by omega
      have hcv2 : (convert 39 9 (.slice (some ⟨w.heap.size, 0, none⟩) l.length cap)).run Tryd.prog wr = .ok (.string (txt (l.map upB))) wr := by
        refine run_bytes_text (l.map upB) (by simp) fun j hj => ?_
        rw [hc.out j hj, List.take_length, List.drop_length, List.append_nil]
      go_wp2
      go_ret
      exact ⟨rfl, hb⟩
end Go.Proofs.YthanbbflemkomaaDoor
