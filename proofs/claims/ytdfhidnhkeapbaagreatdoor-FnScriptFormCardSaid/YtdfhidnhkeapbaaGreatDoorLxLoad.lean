/- convert, and loadBytes without expansion. Condition: the text's length. -/
import Derived.Test.YtdfhidnhkeapbaaGreatDoorLxParse
import Derived.Lib.ConvBytes
import Derived.Laws.IdiomStrings
namespace Go.Proofs.YtdfhidnhkeapbaaGreatDoor
open Go.RowKit U8
open Go.Lib hiding intOf

/-- A slice of bytes. -/
def Bs (W : World) (v : Value) (l : List UInt8) : Prop := ∃ g o cap, v = .slice (some ⟨g, o, none⟩) l.length cap ∧ l.length ≤ cap ∧ ∀ j (hj : j < l.length), W.cell? ⟨g, o + j, none⟩ = some (.int .u8 (l[j].toNat : Int))
theorem Bs.below {w w' : World} {v : Value} {l : List UInt8} (h : Bs w v l) (hb : Below w.heap.size w w') : Bs w' v l := by
  obtain ⟨g, o, cap, e, hc, hx⟩ := h
  exact ⟨g, o, cap, e, hc, fun j hj => (hb.cell (World.block_lt_of_cell? w _ (hx j hj))).trans (hx j hj)⟩
theorem bs_bytes (W : World) (s : List UInt8) : Bs (bytesWorld W 5 (txt s)) (.slice (some ⟨W.heap.size, 0, none⟩) s.length (grownCap W s.length 0 5)) s := by
  refine ⟨W.heap.size, 0, _, rfl, ?_, fun j hj => ?_⟩
  · exact grownCap_ge _ _ _ _
  · rw [Nat.zero_add, bytesWorld_cell W 5 (txt s) j (by rw [txt_size]; exact hj), txt_list, List.getD_eq_getElem?_getD, List.getElem?_eq_getElem hj]
    rfl
/-- A text without the mark of its order of bytes. -/
def bomS (l : List UInt8) : List UInt8 := if hasPrefix l [239, 187, 191] then l.drop 3 else l
theorem bomS_le (l : List UInt8) : (bomS l).length ≤ l.length := by
  unfold bomS
  split
  · rw [List.length_drop]; omega
  · exact Nat.le_refl _
theorem bytesOf_nat (l : List UInt8) : bytesOf (l.map fun b => (b.toNat : Int)) = l := by
  unfold bytesOf
  rw [List.map_map]
  conv => rhs; rw [← List.map_id l]
  refine List.map_congr_left fun b _ => ?_
  simp
theorem getD_nat (l : List UInt8) (i : Nat) (hi : i < l.length) : (l.map fun b => (b.toNat : Int)).getD i 0 = (l[i].toNat : Int) := by
  rw [List.getD_eq_getElem?_getD, List.getElem?_map, List.getElem?_eq_getElem hi]; rfl
theorem trim_any (v : Value) (l : List UInt8) (w : World) (h : Bs w v l) :
    Calls Tryz.prog 75 #[v, .slice (some ⟨w.heap.size, 0, none⟩) 3 3] (w.alloc (.cells #[.int .u8 239, .int .u8 187, .int .u8 191] 5)) fun e w' => (∃ v', e = .returned v' ∧ Bs w' v' (bomS l)) ∧ w' = w.alloc (.cells #[.int .u8 239, .int .u8 187, .int .u8 191] 5) := by
  obtain ⟨g, o, cap, rfl, hc, hx⟩ := h.below ((Below.refl _ w).alloc (Nat.le_refl _) (.cells #[.int .u8 239, .int .u8 187, .int .u8 191] 5))
  refine (Tryz.bytes_TrimPrefix g o l.length cap w.heap.size 0 3 3 (l.map fun b => (b.toNat : Int)) [239, 187, 191] _ (by simp) rfl hc (fun i hi => by rw [getD_nat l i hi]; exact hx i hi) (fun i hi => by
    rw [Nat.zero_add, World.cell?_alloc_new]
    match i, hi with
    | 0, _ => rfl
    | 1, _ => rfl
    | 2, _ => rfl)).mono ?_
  rintro e w' ⟨rfl, rfl⟩
  refine ⟨⟨_, rfl, ?_⟩, rfl⟩
  unfold bytesTrimPrefix bomS
  rw [bytesOf_nat, show bytesOf [239, 187, 191] = [239, 187, 191] from rfl]
  by_cases hp : hasPrefix l [239, 187, 191] = true
  · rw [if_pos hp, if_pos hp]
    have hle : 3 ≤ l.length := by
      have := hasPrefix_le hp
      simpa using this
    show Bs _ (sliceFrom g o l.length cap 3) _
    unfold sliceFrom
    by_cases hc3 : cap = 3
    · rw [if_pos hc3]
      refine ⟨g, o, cap - 3, by rw [List.length_drop], by rw [List.length_drop]; omega, fun j hj => ?_⟩
      rw [List.length_drop] at hj; omega
    · rw [if_neg hc3]
      refine ⟨g, o + 3, cap - 3, by rw [List.length_drop], by rw [List.length_drop]; omega, fun j hj => ?_⟩
      rw [List.length_drop] at hj
      rw [List.getElem_drop, Nat.add_assoc]
      exact hx (3 + j) (by omega)
  · rw [if_neg hp, if_neg hp]
    exact ⟨g, o, cap, rfl, hc, hx⟩
set_option maxHeartbeats 800000 in
theorem convert_utf (v : Value) (l : List UInt8) (w : World) (h : Bs w v l) (enc : Int) (he : enc = 0 ∨ enc = 1) :
    Calls Tryz.prog 77 #[v, .int .u64 enc] w fun e w' => e = .returned (.string (txt l)) ∧ w' = w := by
  obtain ⟨g, o, cap, rfl, hc, hx⟩ := h
  have hcv : (convert 103 9 (.slice (some ⟨g, o, none⟩) l.length cap)).run Tryz.prog w = .ok (.string (txt l)) w :=
    run_convert_bytes_back (P := Tryz.prog) w 103 9 5 ⟨g, o, none⟩ cap l Tryz.underlying103 Tryz.underlying5 Tryz.underlying9 (fun j hj => by
      have : (⟨g, o, none⟩ : Addr).add j = ⟨g, o + j, none⟩ := by unfold Addr.add; split <;> simp_all
      rw [this]; exact hx j hj)
  clear hx
  rcases he with rfl | rfl
  all_goals
    go_enter Tryz.func77, Tryz.ntmps77
    go_wp2
    go_ret
    exact ⟨rfl, rfl⟩
theorem Po.setD {B b m cb : Nat} {d d2 : Bool} {kv : KV2} {cs : CS2} {W : World} (h : Po B b m cb d kv cs W) : Po B b m cb d2 kv cs (W.setCell ⟨b, 2, none⟩ (.bool d2)) := by
  obtain ⟨h1, h2, h3, h4, vk, vc, ho, hm, hn, hc, hcn, hr⟩ := h
  obtain ⟨_, _, hmc⟩ := hm.cells
  obtain ⟨cw, hc1, hc2, hc3⟩ := id hc
  obtain ⟨_, _, hcb⟩ := hc2.cells
  have hk : ∀ r, r ≠ b → (W.setCell ⟨b, 2, none⟩ (.bool d2)).heap[r]? = W.heap[r]? := fun r hr => Below.heap_setCell _ _ _ _ (by exact hr)
  exact ⟨h1, h2, h3, h4, vk, vc, by simp [World.setCell, Array.getElem?_modify, ho], hm.of (hk _ (ne_of_map ho hmc).symm), hn, hc.keep (hk _ (ne_of_map ho hcb).symm) (fun g y fz hg a b => ⟨hk _ (ne_of_types hg ho (by decide)), a, b⟩), hcn, owns_of hr fun g hg => by
    obtain ⟨y, fz, hy⟩ := own_kind hr hg
    exact hk _ (ne_of_types hy ho (by decide))⟩
theorem Po.mono {B B2 b m cb : Nat} {d : Bool} {kv : KV2} {cs : CS2} {W : World} (h : Po B b m cb d kv cs W) (hB : B2 ≤ B) : Po B2 b m cb d kv cs W := by
  obtain ⟨h1, h2, h3, h4, vk, vc, ho, hm, hn, hc, hcn, hr⟩ := h
  refine ⟨by omega, by omega, by omega, h4, vk, vc, ho, hm, hn, hc, hcn, hr.1, ?_⟩
  rcases hr.2 with h | ⟨g, cap, cur, e, hg, r⟩
  · exact .inl h
  · exact .inr ⟨g, cap, cur, e, by omega, r⟩
/-- What loading a text without expansion hands on. -/
def LoadN (w : World) (T : List UInt8) (e : Ending) (w' : World) : Prop := Below w.heap.size w w' ∧
  ((parseM (lexT T) [] [] [] = none ∧ ∃ t a, e = .returned (.tuple #[.pointer none, .iface t (.pointer a)])) ∨
   ∃ kv cs b m cb, parseM (lexT T) [] [] [] = some (kv, cs) ∧ e = .returned (.tuple #[.pointer (some ⟨b, 0, none⟩), .nilIface]) ∧ Po w.heap.size b m cb true kv cs w')
theorem neq_err (a : Nat) (w : World) : (binOp .neq 90 (.iface 161 (.pointer (some ⟨a, 0, none⟩))) .nilIface).run Tryz.prog w = .ok (.bool true) w := by kernel_rfl
set_option maxHeartbeats 1600000 in
set_option maxRecDepth 100000 in
theorem loadB_plain (L : Nat) (v : Value) (l : List UInt8) (enc : Int) (w : World) (h : Bs w v l) (he : enc = 0 ∨ enc = 1) (hT : Tabs w) (hl : l.length ≤ 50000) (hL1 : w.cell? ⟨L, 1, none⟩ = some (.bool true)) :
    Calls Tryz.prog 66 #[.pointer (some ⟨L, 0, none⟩), v, .int .u64 enc] w (LoadN w (bomS l)) := by
  have CT := Lib.hid (trim_any v l w h)
  have hLl := World.block_lt_of_cell? w _ hL1
  simp only at hLl
  have HT := Lib.hid hT
  have hbl := bomS_le l
  obtain ⟨g, o, cap, rfl, hc, hx⟩ := h
  clear hx hc hT
  rcases he with rfl | rfl
  all_goals
    go_enter Tryz.func66, Tryz.ntmps66
    go_wp2_with fail
    refine CT.out.mono ?_
    rintro e w1 ⟨⟨v1, rfl, h1⟩, hw1⟩
    have HB1 : Hid (Below w.heap.size w w1) := by rw [hw1]; exact (Below.refl _ w).alloc (Nat.le_refl _) _
    have H1 := Lib.hid h1
    have hL11 : w1.cell? ⟨L, 1, none⟩ = some (.bool true) := (HB1.out.cell (p := ⟨L, 1, none⟩) hLl).trans hL1
    have hs1 := HB1.out.size
    clear hw1 h1 CT
    obtain ⟨g1, o1, cap1, rfl, _, _⟩ := H1.out
    go_wp2_with fail
    refine (convert_utf _ (bomS l) w1 H1.out _ (by simp)).mono ?_
    rintro e w2 ⟨rfl, hw2⟩
    obtain rfl := hw2.symm
    go_wp2_with fail
    refine (parse_any (bomS l) w1 (HT.out.below HB1.out) (by omega)).mono ?_
    rintro e w3 ⟨hb3, ⟨hn, p, a, rfl⟩ | ⟨kv, cs, b, m, cb, hn, rfl, hp⟩⟩
    · have HB3 := Lib.hid (HB1.out.trans (hb3.mono hs1))
      have HN := Lib.hid hn
      have hne := neq_err a w3
      clear hb3 hn
      go_wp2
      go_ret2
      exact ⟨HB3.out, .inl ⟨HN.out, _, _, rfl⟩⟩
    · have HB3 := Lib.hid (HB1.out.trans (hb3.mono hs1))
      have hL13 : w3.cell? ⟨L, 1, none⟩ = some (.bool true) := (hb3.cell (p := ⟨L, 1, none⟩) (by show L < _; omega)).trans hL11
      have HN := Lib.hid hn
      have HP := Lib.hid ((hp.setD (d2 := true)).mono (B2 := w.heap.size) hs1)
      have hpo := hp
      obtain ⟨q1, _, _, _, vk, vc, ho, _⟩ := hp
      have HB4 := Lib.hid (HB3.out.setCell (p := ⟨b, 2, none⟩) (by show _ ≤ b; omega) (.bool true))
      have d2 : w3.cell? ⟨b, 2, none⟩ = some (.bool false) := by simp [World.cell?, ho]
      have f2 : w3.frozen? ⟨b, 2, none⟩ = false := by simp [World.frozen?, ho]
      clear hb3 hn ho hpo
      go_wp2
      go_ret2
      exact ⟨HB4.out, .inr ⟨kv, cs, b, m, cb, HN.out, rfl, HP.out⟩⟩
end Go.Proofs.YtdfhidnhkeapbaaGreatDoor
