/- The contract of strcase's zzContainsAny at one character and any text; what a range over a text hands over. -/
import Derived.Test.YthanbbflemkomaaDoorCBld
import Derived.Test.YthanbbflemkomaaDoorPcs
namespace Go.Proofs.YthanbbflemkomaaDoor
open Go.RowKit U8
open Go.Lib hiding intOf

/-- What the iterator over a text hands over. -/
theorem next_part (W : World) (k : Nat) (p a rest : List UInt8) (r : Nat) (hk : W.heap[k]? = some (.stringIter (txt (p ++ (a ++ rest))) p.length)) (ha : a ≠ []) (hd : decodeL (a ++ rest) = (r, a.length)) (ty : TypeId) :
    (Instr.next (.pointer (some ⟨k, 0, none⟩)) true ty).run Tryd.prog W = .ok (.tuple #[.bool true, .int .i64 p.length, .int .i32 r]) (W.iterAt k (txt (p ++ (a ++ rest))) (p ++ a).length) := by
  have hl : 0 < a.length := List.length_pos_iff.2 ha
  have hdec : Utf8.decode (txt (p ++ (a ++ rest))) p.length = (r, a.length) := by
    rw [← decodeL_drop, txt_list, List.drop_left]; exact hd
  rw [run_next_any_at W k _ _ ty hk (by rw [txt_size, List.length_append, List.length_append]; omega), hdec, List.length_append]

set_option maxHeartbeats 1600000 in
set_option maxRecDepth 100000 in
theorem index_any (b : UInt8) (ig : List UInt8) (w : World) (hb : b.toNat < 128) :
    Calls Tryd.prog 82 #[.string (txt [b]), .string (txt ig)] w fun e w' => e = .returned (.int .i64 (if hasR ig b.toNat then 0 else -1)) ∧ Below w.heap.size w w' := by
  obtain ⟨R, hR⟩ : ∃ R, hasR ig b.toNat = R := ⟨_, rfl⟩
  rw [hR]
  have HR := Lib.hid hR.symm
  obtain ⟨z, hz⟩ : ∃ z : Int, (if R then 0 else -1) = z := ⟨_, rfl⟩
  rw [hz]
  have HZ := Lib.hid hz.symm
  clear hz
  have hd1 : decodeL ([b] ++ []) = (b.toNat, [b].length) := decodeL_ascii b [] hb
  obtain ⟨v, hv⟩ : ∃ v, b.toNat = v := ⟨_, rfl⟩
  rw [hv] at hd1 hb
  have HV := Lib.hid hv
  clear hR hv
  have HD := Lib.hid hd1
  have HB8 := hb
  clear hd1
  go_enter Tryd.func82, Tryd.ntmps82
  go_wp2
  go_loopg [4] 3 (fun gk c wr => c = .int .i64 0 ∧ Below w.heap.size w wr ∧ ((1 < gk ∧ wr.heap[w.heap.size]? = some (.stringIter (txt [b]) 0)) ∨ (0 < gk ∧ wr.heap[w.heap.size]? = some (.stringIter (txt [b]) 1) ∧ R = false)))
  case atStart => exact ⟨rfl, (Below.refl _ _).alloc (Nat.le_refl _) _, .inl ⟨by omega, World.iter_heap _ _ _⟩⟩
  case round =>
    obtain ⟨rfl, hb0, hst⟩ := hrel
    rcases hst with ⟨hg, hit⟩ | ⟨hg, hit, hRf⟩
    · have hsz : w.heap.size < wr.heap.size := (Array.getElem?_eq_some_iff.1 hit).1
      obtain ⟨g0, rfl⟩ : ∃ m, gk = m + 1 := ⟨gk - 1, by omega⟩
      have hnx : ∀ ty, (Instr.next (.pointer (some ⟨w.heap.size, 0, none⟩)) true ty).run Tryd.prog wr = .ok (.tuple #[.bool true, .int .i64 0, .int .i32 v]) (wr.iterAt w.heap.size (txt [b]) 1) := fun ty => next_part wr w.heap.size [] [b] [] v hit (by simp) HD.out ty
      have hit2 := iterAt_heap wr w.heap.size (txt [b]) _ 1 hit
      have hb2 := below_iterAt hb0 (Nat.le_refl _) (txt [b]) 1
      have hsz2 : w.heap.size < (wr.iterAt w.heap.size (txt [b]) 1).heap.size := by rw [iterAt_size]; exact hsz
      generalize wr.iterAt w.heap.size (txt [b]) 1 = wi at *
      clear hit hb0 hsz
      go_wp2
      rename World => v9
      go_loopg [4] (ig.length + 1) (fun gk c wr => ∃ p rest : List UInt8, c = .int .i64 0 ∧ Hid (ig = p ++ rest) ∧ wr.heap[v9.heap.size]? = some (.stringIter (txt ig) p.length) ∧ rest.length < gk ∧ Hid (R = hasR rest b.toNat) ∧ wr.heap[w.heap.size]? = some (.stringIter (txt [b]) 1) ∧ Below w.heap.size w wr)
      case atStart => exact ⟨[], ig, rfl, rfl, World.iter_heap _ _ _, by omega, HR.out, by rw [show v9.iter (txt ig) 0 = v9.alloc (.stringIter (txt ig) 0) from rfl, alloc_old v9 _ _ hsz2]; exact hit2, hb2.alloc hb2.size _⟩
      case round =>
        obtain ⟨p, rest, rfl, HT, hi, hg2, HO, ho, hb⟩ := hrel
        have hbs := hb.size
        have hlt : v9.heap.size < wr.heap.size := (Array.getElem?_eq_some_iff.1 hi).1
        by_cases hne : rest = []
        · subst hne
          have hp : ¬ p.length < (txt ig).size := by rw [HT.out, List.append_nil, txt_size]; omega
          have hny := fun ty => @run_next_end_at Tryd.prog wr v9.heap.size _ _ ty hi hp
          clear hnx hit2 hp
          go_wp2
          go_roundg g0
          case rel => exact ⟨rfl, hb, .inr ⟨by omega, ho, HO.out⟩⟩
          case measure => omega
        · obtain ⟨a, rest, r, rfl, ha, hd, hsc, _⟩ := first_part rest hne
          have hri := hsc.i32
          have hal : 0 < a.length := List.length_pos_iff.2 ha
          rw [List.length_append] at hg2
          obtain ⟨gk, rfl⟩ : ∃ m, gk = m + 1 := ⟨gk - 1, by omega⟩
          have HA := Lib.hid ha
          have HD2 := Lib.hid hd
          have hny : ∀ ty, (Instr.next (.pointer (some ⟨v9.heap.size, 0, none⟩)) true ty).run Tryd.prog wr = .ok (.tuple #[.bool true, .int .i64 p.length, .int .i32 r]) (wr.iterAt v9.heap.size (txt ig) (p ++ a).length) := fun ty => by
            have := next_part wr v9.heap.size p a rest r (HT.out ▸ hi) ha hd ty
            rw [← HT.out] at this
            exact this
          have hi2 := iterAt_heap wr v9.heap.size (txt ig) _ (p ++ a).length hi
          have hb3 := below_iterAt hb hb2.size (txt ig) (p ++ a).length
          have ho2 : (wr.iterAt v9.heap.size (txt ig) (p ++ a).length).heap[w.heap.size]? = some (.stringIter (txt [b]) 1) := by
            rw [iterAt_other wr _ _ _ _ (by omega)]; exact ho
          generalize wr.iterAt v9.heap.size (txt ig) (p ++ a).length = wj at *
          clear hnx hit2 hi ho hb ha hd hne
          have hxx : ((v : Int) == (r : Int)) = decide (v = r) := by
            by_cases h : v = r
            · simp [h]
            · simp [h]; omega
          have HO2 : Hid (R = (r == b.toNat || hasR rest b.toNat)) := by show _ = _; rw [HO.out, hasR_cons a rest r _ HA.out HD2.out]
          by_cases hvr : v = r
          · have hrt : R = true := by rw [HO2.out, HV.out, hvr]; simp
            have hzz : z = 0 := by rw [HZ.out, hrt]; rfl
            have hx2 : ((v : Int) == (r : Int)) = true := by rw [hxx, decide_eq_true hvr]
            clear hxx hvr hrt
            go_wp2
            go_ret
            exact ⟨by rw [hzz]; rfl, hb3⟩
          · have hx2 : ((v : Int) == (r : Int)) = false := by rw [hxx, decide_eq_false hvr]
            have hrf : R = hasR rest b.toNat := by rw [HO2.out, HV.out, show (r == v) = false by simp; omega, Bool.false_or]
            have HRF := Lib.hid hrf
            clear hxx hvr hrf
            go_wp2
            go_roundg gk
            case rel => exact ⟨p ++ a, rest, rfl, by show _ = _; rw [HT.out, List.append_assoc], hi2, by omega, HRF.out, ho2, hb3⟩
            case measure => omega
    · have hp : ¬ 1 < (txt [b]).size := by rw [txt_size]; simp
      have hnx := fun ty => @run_next_end_at Tryd.prog wr w.heap.size _ _ ty hit hp
      go_wp2
      go_ret
      exact ⟨by rw [HZ.out, hRf]; rfl, hb0⟩

theorem has_any (b : UInt8) (ig : List UInt8) (w : World) (hb : b.toNat < 128) :
    Calls Tryd.prog 61 #[.string (txt [b]), .string (txt ig)] w fun e w' => e = .returned (.bool (hasR ig b.toNat)) ∧ Below w.heap.size w w' := by
  obtain ⟨z, hz⟩ : ∃ z : Int, (if hasR ig b.toNat = true then 0 else -1) = z := ⟨_, rfl⟩
  have hd : decide (0 ≤ z) = hasR ig b.toNat := by rw [← hz]; cases hasR ig b.toNat <;> rfl
  have c := index_any b ig w hb
  rw [hz] at c
  rw [← hd]
  have C := Lib.hid c
  clear c hz hd
  go_enter Tryd.func61, Tryd.ntmps61
  go_wp2_with (go_at_call 82; refine C.out.mono ?_; rintro e w1 ⟨rfl, hb1⟩)
  go_ret
  exact ⟨rfl, hb1⟩

end Go.Proofs.YthanbbflemkomaaDoor
