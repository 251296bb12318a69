/- laws.swaps at any text. -/
import Derived.Test.YtbomlhhpokknaaaDoorTAscii
import Derived.BigQuiet
import Derived.Deep.QuietTactic
namespace Go.Proofs.YtbomlhhpokknaaaDoor
open Go.RowKit U8
open Go.Lib hiding intOf

def swB (b : UInt8) : UInt8 := if upB b = b then loB b else upB b
set_option maxHeartbeats 1600000 in
set_option maxRecDepth 100000 in
theorem swaps_any (l : List UInt8) (w : World) (hl : l.length ≤ 100000) :
    Calls Tryd.prog 21 #[.string (txt l)] w fun e w' => e = .returned (.string (txt (l.map swB))) ∧ Below w.heap.size w w' := by
  have hcv := fun W => run_text_bytes W (txt l)
  have hll := txt_size l
  go_enter Tryd.func21, Tryd.ntmps21
  go_wp2_with fail
  refine (upper_any l _ hl).mono ?_
  rintro e w1 ⟨rfl, hb1⟩
  go_wp2_with fail
  refine (lower_any l _ hl).mono ?_
  rintro e w2 ⟨rfl, hb2⟩
  have h2 := chain hb1 hb2
  clear hb1 hb2
  go_wp2
  have hb0 : Below w.heap.size w (bytesWorld w2 5 (txt l)) := bytesWorld_below h2 h2.size _ _
  have hc0 : ∀ j, j < l.length → (bytesWorld w2 5 (txt l)).cell? ⟨w2.heap.size, j, none⟩ = (byteCells l)[j]? := fun j hj => by
    rw [bytesWorld_cell w2 _ (txt l) j (by rw [txt_size]; exact hj), byteCells_get, txt_list, List.getElem?_eq_getElem hj]
    simp [List.getD, List.getElem?_eq_getElem hj]
  have hf0 : ∀ j, j < l.length → (bytesWorld w2 5 (txt l)).frozen? ⟨w2.heap.size, j, none⟩ = false := fun j hj => row_frozen w2 (txt l) j (by rw [txt_size]; exact hj)
  have HC := Lib.hid hc0
  have HF := Lib.hid hf0
  have hbase := h2.size
  clear hc0 hf0 h2
  generalize bytesWorld w2 5 (txt l) = wb at *
  generalize grownCap w2 l.length 0 5 = cap at *
  generalize w2.heap.size = g at *
  go_loopg [15] (l.length + 1) (fun gk i wr => ∃ k : Nat, k ≤ l.length ∧ i = .int .i64 k ∧ Hid (∀ j, j < l.length → wr.cell? ⟨g, j, none⟩ = (byteCells ((l.take k).map swB ++ l.drop k))[j]?) ∧ Hid (∀ j, j < l.length → wr.frozen? ⟨g, j, none⟩ = false) ∧ l.length - k < gk ∧ Below w.heap.size w wr)
  case atStart => exact ⟨0, by omega, rfl, by show ∀ j, j < l.length → _; simpa using HC.out, HF.out, by omega, hb0⟩
  case round =>
    obtain ⟨k, hk, rfl, hc, hf, hg, hb⟩ := hrel
    by_cases hkl : k < l.length
    · obtain ⟨b, hbk⟩ : ∃ b, l[k]? = some b := ⟨l[k], List.getElem?_eq_getElem hkl⟩
      have hck : wr.cell? ⟨g, k, none⟩ = some (.int .u8 b.toNat) := by
        rw [hc.out k hkl, byteCells_get, List.getElem?_append_right (by simp; omega)]
        simp [Nat.min_eq_left hk, hbk]
      have hfk := hf.out k hkl
      have iu := run_byte (l.map upB) k (upB b) (by rw [List.getElem?_map, hbk]; rfl)
      have is := run_byte l k b hbk
      have il := run_byte (l.map loB) k (loB b) (by rw [List.getElem?_map, hbk]; rfl)
      have HADV := Lib.hid (adv_set swB l k b hbk)
      have hlen : ((l.take k).map swB ++ l.drop k).length = l.length := by simp; omega
      have HLEN := Lib.hid hlen
      obtain ⟨gk, rfl⟩ : ∃ m, gk = m + 1 := ⟨gk - 1, by omega⟩
      have hn1 := (upB b).toNat_lt
      have hn2 := (loB b).toNat_lt
      have hn3 := b.toNat_lt
      have key : ∀ (v : Nat) (W : World), (swB b).toNat = v → (∀ a, W.cell? a = wr.cell? a) → (∀ a, W.frozen? a = wr.frozen? a) → (∀ j, j < l.length → (W.setCell ⟨g, k, none⟩ (.int .u8 v)).cell? ⟨g, j, none⟩ = (byteCells ((l.take (k + 1)).map swB ++ l.drop (k + 1)))[j]?) ∧ (∀ j, j < l.length → (W.setCell ⟨g, k, none⟩ (.int .u8 v)).frozen? ⟨g, j, none⟩ = false) := by
        intro v W hv hW hWf
        refine ⟨fun j hj => ?_, fun j hj => by rw [World.frozen?_setCell, hWf]; exact hf.out j hj⟩
        rw [HADV.out, bcells_set _ _ _ _ (by rw [HLEN.out]; exact hj)]
        by_cases h : k = j
        · rw [if_pos h, ← h, World.cell?_setCell_same _ _ _ ((hW _).trans hck), hv]
        · rw [if_neg h, World.cell?_setCell_other _ _ _ _ (fun e => h (congrArg Addr.off e)), hW]
          exact hc.out j hj
      by_cases he : upB b = b
      · have hs : (swB b).toNat = (loB b).toNat := by unfold swB; rw [if_pos he]
        have ht : (((upB b).toNat : Int) != (b.toNat : Int)) = false := by rw [he]; simp
        have KEY := Lib.hid (fun W => key (loB b).toNat W hs)
        clear key hs hbk hlen he
        generalize (upB b).toNat = xu at *
        generalize b.toNat = x at *
        generalize (loB b).toNat = xl at *
        go_wp2
        go_quiet (fail)
        go_wp2
        go_roundg gk
        case rel => exact ⟨k + 1, by omega, by go_num, (KEY.out _ (fun _ => rfl) (fun _ => rfl)).1, (KEY.out _ (fun _ => rfl) (fun _ => rfl)).2, by omega, (show Below w.heap.size w (wr.drewN nq) from ⟨hb.os, hb.tape, hb.output, hb.size, hb.block⟩).setCell hbase _⟩
        case measure => omega
      · have hs : (swB b).toNat = (upB b).toNat := by unfold swB; rw [if_neg he]
        have ht : (((upB b).toNat : Int) != (b.toNat : Int)) = true := by
          rw [bne_iff_ne]
          intro h
          exact he (UInt8.toNat_inj.1 (by omega))
        have KEY := Lib.hid (fun W => key (upB b).toNat W hs)
        clear key hs hbk hlen he
        generalize (upB b).toNat = xu at *
        generalize b.toNat = x at *
        generalize (loB b).toNat = xl at *
        go_wp2
        go_quiet (fail)
        go_wp2
        go_roundg gk
        case rel => exact ⟨k + 1, by omega, by go_num, (KEY.out _ (fun _ => rfl) (fun _ => rfl)).1, (KEY.out _ (fun _ => rfl) (fun _ => rfl)).2, by omega, (show Below w.heap.size w (wr.drewN nq) from ⟨hb.os, hb.tape, hb.output, hb.size, hb.block⟩).setCell hbase _⟩
        case measure => omega
    · obtain rfl : k = l.length := by omega
      have hcv2 : (convert 41 9 (.slice (some ⟨g, 0, none⟩) l.length cap)).run Tryd.prog wr = .ok (.string (txt (l.map swB))) wr := by
        refine run_bytes_text (l.map swB) (by simp) fun j hj => ?_
        rw [hc.out j hj, List.take_length, List.drop_length, List.append_nil]
      go_wp2
      go_ret
      exact ⟨rfl, hb⟩

end Go.Proofs.YtbomlhhpokknaaaDoor
