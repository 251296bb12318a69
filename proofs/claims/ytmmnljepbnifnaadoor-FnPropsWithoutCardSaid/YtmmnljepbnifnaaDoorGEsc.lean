/- properties.zzIndexRune, zzContainsRune, escape, encodeUtf8, encode: their walks. -/
import Derived.Test.YtmmnljepbnifnaaDoorGList
namespace Go.Proofs.YtmmnljepbnifnaaDoor
open Go.RowKit U8
open Go.Lib hiding intOf

def IndPost (R : Bool) (w : World) (e : Ending) (w' : World) : Prop := ∃ z : Int, e = .returned (.int .i64 z) ∧ Below w.heap.size w w' ∧ -1 ≤ z ∧ z ≤ 140737488355328 ∧ (0 ≤ z ↔ R = true)
set_option maxHeartbeats 3200000 in
set_option maxRecDepth 100000 in
theorem irune_any (sp : List UInt8) (r : Nat) (w : World) (hr : Sc r) (hl : sp.length ≤ 1000000) :
    Calls Tryd.prog 90 #[.string (txt sp), .int .i32 r] w (IndPost (hasR sp r) w) := by
  obtain ⟨R, hR⟩ : ∃ R, hasR sp r = R := ⟨_, rfl⟩
  rw [hR]
  have HR := Lib.hid hR.symm
  have hri := hr.i32
  have hrs : r < 55296 ∨ 57343 < r := by unfold Sc at hr; omega
  have hru : r ≤ 1114111 := by unfold Sc at hr; omega
  clear hR hr
  have main : ∀ (hx : True), Calls Tryd.prog 90 #[.string (txt sp), .int .i32 r] w (IndPost R w) := by
    intro _
    have e1 : decide ((r : Int) < 0) = false := by simp
    have e2 : decide ((1114111 : Int) < r) = false := by simp; omega
    have e3 : (decide ((55296 : Int) ≤ r) && decide ((r : Int) ≤ 57343)) = false := by
      rcases hrs with h | h
      · rw [show decide ((55296 : Int) ≤ r) = false by simp; omega]; rfl
      · rw [show decide ((r : Int) ≤ 57343) = false by simp; omega]; simp
    by_cases hz : r = 65533
    · subst hz
      go_enter Tryd.func90, Tryd.ntmps90
      go_wp2
      go_loopg [4] (sp.length + 1) (fun gk c wr => ∃ p rest : List UInt8, c = .int .i64 0 ∧ Hid (sp = p ++ rest) ∧ wr.heap[w.heap.size]? = some (.stringIter (txt sp) p.length) ∧ rest.length < gk ∧ Hid (R = hasR rest 65533) ∧ Below w.heap.size w wr)
      case atStart => exact ⟨[], sp, rfl, rfl, World.iter_heap _ _ _, by omega, HR.out, (Below.refl _ _).alloc (Nat.le_refl _) _⟩
      case round =>
        obtain ⟨p, rest, rfl, HT, hi, hg2, HO, hb⟩ := hrel
        have hbs := hb.size
        have hlt : w.heap.size < wr.heap.size := (Array.getElem?_eq_some_iff.1 hi).1
        by_cases hne : rest = []
        · subst hne
          have hp : ¬ p.length < (txt sp).size := by rw [HT.out, List.append_nil, txt_size]; omega
          have hny := fun ty => @run_next_end_at Tryd.prog wr w.heap.size _ _ ty hi hp
          have HF : Hid (R = false) := HO.out
          clear HO hp
          go_wp2
          go_ret
          exact ⟨-1, rfl, hb, by omega, by omega, by rw [HF.out]; simp⟩
        · obtain ⟨a, rest, x, rfl, ha, hd, hsc, _⟩ := first_part rest hne
          have hxi := hsc.i32
          have hal : 0 < a.length := List.length_pos_iff.2 ha
          rw [List.length_append] at hg2
          obtain ⟨gk, rfl⟩ : ∃ m, gk = m + 1 := ⟨gk - 1, by omega⟩
          have HA := Lib.hid ha
          have HD2 := Lib.hid hd
          have hpl : p.length ≤ 1000000 := by
            have : sp.length = p.length + (a.length + rest.length) := by rw [HT.out]; simp
            omega
          have hny : ∀ ty, (Instr.next (.pointer (some ⟨w.heap.size, 0, none⟩)) true ty).run Tryd.prog wr = .ok (.tuple #[.bool true, .int .i64 p.length, .int .i32 x]) (wr.iterAt w.heap.size (txt sp) (p ++ a).length) := fun ty => by
            have := next_part wr w.heap.size p a rest x (HT.out ▸ hi) ha hd ty
            rw [← HT.out] at this
            exact this
          have hi2 := iterAt_heap wr w.heap.size (txt sp) _ (p ++ a).length hi
          have hb3 := below_iterAt hb (Nat.le_refl _) (txt sp) (p ++ a).length
          generalize wr.iterAt w.heap.size (txt sp) (p ++ a).length = wj at *
          clear hi hb ha hd hne
          have HO2 : Hid (R = (x == 65533 || hasR rest 65533)) := by show _ = _; rw [HO.out, hasR_cons a rest x _ HA.out HD2.out]
          by_cases hvr : x = 65533
          · have hxx : ((x : Int) == (65533 : Int)) = true := by rw [hvr]; simp
            have HF : Hid (R = true) := by show _ = _; rw [HO2.out, hvr]; simp
            clear HO HO2 hvr
            go_wp2
            go_ret
            exact ⟨p.length, rfl, hb3, by omega, by omega, by rw [HF.out]; simp⟩
          · have hxx : ((x : Int) == (65533 : Int)) = false := beq_eq_false_iff_ne.2 (by omega)
            have HF : Hid (R = hasR rest 65533) := by show _ = _; rw [HO2.out, beq_eq_false_iff_ne.2 hvr]; rfl
            clear HO HO2 hvr
            go_wp2
            go_roundg gk
            case rel => exact ⟨p ++ a, rest, rfl, by show _ = _; rw [List.append_assoc]; exact HT.out, hi2, by omega, HF.out, hb3⟩
            case measure => omega
    · have e0 : ((r : Int) == 65533) = false := beq_eq_false_iff_ne.2 (by omega)
      rcases hrs with h | h
      · go_enter Tryd.func90, Tryd.ntmps90
        go_wp2
        go_loopg [4] (sp.length + 1) (fun gk c wr => ∃ p rest : List UInt8, c = .int .i64 0 ∧ Hid (sp = p ++ rest) ∧ wr.heap[w.heap.size]? = some (.stringIter (txt sp) p.length) ∧ rest.length < gk ∧ Hid (R = hasR rest r) ∧ Below w.heap.size w wr)
        case atStart => exact ⟨[], sp, rfl, rfl, World.iter_heap _ _ _, by omega, HR.out, (Below.refl _ _).alloc (Nat.le_refl _) _⟩
        case round =>
          obtain ⟨p, rest, rfl, HT, hi, hg2, HO, hb⟩ := hrel
          have hbs := hb.size
          have hlt : w.heap.size < wr.heap.size := (Array.getElem?_eq_some_iff.1 hi).1
          by_cases hne : rest = []
          · subst hne
            have hp : ¬ p.length < (txt sp).size := by rw [HT.out, List.append_nil, txt_size]; omega
            have hny := fun ty => @run_next_end_at Tryd.prog wr w.heap.size _ _ ty hi hp
            have HF : Hid (R = false) := HO.out
            clear HO hp
            go_wp2
            go_ret
            exact ⟨-1, rfl, hb, by omega, by omega, by rw [HF.out]; simp⟩
          · obtain ⟨a, rest, x, rfl, ha, hd, hsc, _⟩ := first_part rest hne
            have hxi := hsc.i32
            have hal : 0 < a.length := List.length_pos_iff.2 ha
            rw [List.length_append] at hg2
            obtain ⟨gk, rfl⟩ : ∃ m, gk = m + 1 := ⟨gk - 1, by omega⟩
            have HA := Lib.hid ha
            have HD2 := Lib.hid hd
            have hpl : p.length ≤ 1000000 := by
              have : sp.length = p.length + (a.length + rest.length) := by rw [HT.out]; simp
              omega
            have hny : ∀ ty, (Instr.next (.pointer (some ⟨w.heap.size, 0, none⟩)) true ty).run Tryd.prog wr = .ok (.tuple #[.bool true, .int .i64 p.length, .int .i32 x]) (wr.iterAt w.heap.size (txt sp) (p ++ a).length) := fun ty => by
              have := next_part wr w.heap.size p a rest x (HT.out ▸ hi) ha hd ty
              rw [← HT.out] at this
              exact this
            have hi2 := iterAt_heap wr w.heap.size (txt sp) _ (p ++ a).length hi
            have hb3 := below_iterAt hb (Nat.le_refl _) (txt sp) (p ++ a).length
            generalize wr.iterAt w.heap.size (txt sp) (p ++ a).length = wj at *
            clear hi hb ha hd hne
            have HO2 : Hid (R = (x == r || hasR rest r)) := by show _ = _; rw [HO.out, hasR_cons a rest x _ HA.out HD2.out]
            by_cases hvr : x = r
            · have hxx : ((x : Int) == (r : Int)) = true := by rw [hvr]; simp
              have HF : Hid (R = true) := by show _ = _; rw [HO2.out, hvr]; simp
              clear HO HO2 hvr
              go_wp2
              go_ret
              exact ⟨p.length, rfl, hb3, by omega, by omega, by rw [HF.out]; simp⟩
            · have hxx : ((x : Int) == (r : Int)) = false := beq_eq_false_iff_ne.2 (by omega)
              have HF : Hid (R = hasR rest r) := by show _ = _; rw [HO2.out, beq_eq_false_iff_ne.2 hvr]; rfl
              clear HO HO2 hvr
              go_wp2
              go_roundg gk
              case rel => exact ⟨p ++ a, rest, rfl, by show _ = _; rw [List.append_assoc]; exact HT.out, hi2, by omega, HF.out, hb3⟩
              case measure => omega
      · go_enter Tryd.func90, Tryd.ntmps90
        go_wp2
        go_loopg [4] (sp.length + 1) (fun gk c wr => ∃ p rest : List UInt8, c = .int .i64 0 ∧ Hid (sp = p ++ rest) ∧ wr.heap[w.heap.size]? = some (.stringIter (txt sp) p.length) ∧ rest.length < gk ∧ Hid (R = hasR rest r) ∧ Below w.heap.size w wr)
        case atStart => exact ⟨[], sp, rfl, rfl, World.iter_heap _ _ _, by omega, HR.out, (Below.refl _ _).alloc (Nat.le_refl _) _⟩
        case round =>
          obtain ⟨p, rest, rfl, HT, hi, hg2, HO, hb⟩ := hrel
          have hbs := hb.size
          have hlt : w.heap.size < wr.heap.size := (Array.getElem?_eq_some_iff.1 hi).1
          by_cases hne : rest = []
          · subst hne
            have hp : ¬ p.length < (txt sp).size := by rw [HT.out, List.append_nil, txt_size]; omega
            have hny := fun ty => @run_next_end_at Tryd.prog wr w.heap.size _ _ ty hi hp
            have HF : Hid (R = false) := HO.out
            clear HO hp
            go_wp2
            go_ret
            exact ⟨-1, rfl, hb, by omega, by omega, by rw [HF.out]; simp⟩
          · obtain ⟨a, rest, x, rfl, ha, hd, hsc, _⟩ := first_part rest hne
            have hxi := hsc.i32
            have hal : 0 < a.length := List.length_pos_iff.2 ha
            rw [List.length_append] at hg2
            obtain ⟨gk, rfl⟩ : ∃ m, gk = m + 1 := ⟨gk - 1, by omega⟩
            have HA := Lib.hid ha
            have HD2 := Lib.hid hd
            have hpl : p.length ≤ 1000000 := by
              have : sp.length = p.length + (a.length + rest.length) := by rw [HT.out]; simp
              omega
            have hny : ∀ ty, (Instr.next (.pointer (some ⟨w.heap.size, 0, none⟩)) true ty).run Tryd.prog wr = .ok (.tuple #[.bool true, .int .i64 p.length, .int .i32 x]) (wr.iterAt w.heap.size (txt sp) (p ++ a).length) := fun ty => by
              have := next_part wr w.heap.size p a rest x (HT.out ▸ hi) ha hd ty
              rw [← HT.out] at this
              exact this
            have hi2 := iterAt_heap wr w.heap.size (txt sp) _ (p ++ a).length hi
            have hb3 := below_iterAt hb (Nat.le_refl _) (txt sp) (p ++ a).length
            generalize wr.iterAt w.heap.size (txt sp) (p ++ a).length = wj at *
            clear hi hb ha hd hne
            have HO2 : Hid (R = (x == r || hasR rest r)) := by show _ = _; rw [HO.out, hasR_cons a rest x _ HA.out HD2.out]
            by_cases hvr : x = r
            · have hxx : ((x : Int) == (r : Int)) = true := by rw [hvr]; simp
              have HF : Hid (R = true) := by show _ = _; rw [HO2.out, hvr]; simp
              clear HO HO2 hvr
              go_wp2
              go_ret
              exact ⟨p.length, rfl, hb3, by omega, by omega, by rw [HF.out]; simp⟩
            · have hxx : ((x : Int) == (r : Int)) = false := beq_eq_false_iff_ne.2 (by omega)
              have HF : Hid (R = hasR rest r) := by show _ = _; rw [HO2.out, beq_eq_false_iff_ne.2 hvr]; rfl
              clear HO HO2 hvr
              go_wp2
              go_roundg gk
              case rel => exact ⟨p ++ a, rest, rfl, by show _ = _; rw [List.append_assoc]; exact HT.out, hi2, by omega, HF.out, hb3⟩
              case measure => omega
  exact main trivial

theorem irune_z (sp : List UInt8) (r : Nat) (w : World) (hr : Sc r) (hl : sp.length ≤ 1000000) :
    Calls Tryd.prog 68 #[.string (txt sp), .int .i32 r] w fun e w' => e = .returned (.bool (hasR sp r)) ∧ Below w.heap.size w w' := by
  have C := Lib.hid (irune_any sp r w hr hl)
  obtain ⟨R, hR⟩ : ∃ R, hasR sp r = R := ⟨_, rfl⟩
  rw [hR] at C ⊢
  clear hR
  go_enter Tryd.func68, Tryd.ntmps68
  go_wp2_with fail
  refine C.out.mono ?_
  rintro e w1 ⟨z, rfl, hb, h1, h2, h3⟩
  have HB := Lib.hid hb
  have hd : decide (0 ≤ z) = R := by
    cases R
    · exact decide_eq_false (fun h => by have := h3.1 h; cases this)
    · exact decide_eq_true (h3.2 rfl)
  have HD := Lib.hid hd
  clear hb h3 hd
  go_wp2
  go_ret
  exact ⟨by rw [← HD.out]; rfl, HB.out⟩
def escP (sp : List UInt8) (r : Nat) : List UInt8 :=
  if r = 12 then [92, 102] else if r = 10 then [92, 110] else if r = 13 then [92, 114] else if r = 9 then [92, 116] else if r = 92 then [92, 92] else if hasR sp r = true then 92 :: enc1 r else enc1 r
theorem escP_le (sp : List UInt8) (r : Nat) : (escP sp r).length ≤ 5 := by
  have : (enc1 r).length ≤ 4 := enc1_le r
  unfold escP
  repeat' split
  all_goals simp
  all_goals omega
set_option maxHeartbeats 3200000 in
set_option maxRecDepth 100000 in
theorem escape_any (sp : List UInt8) (r : Nat) (w : World) (hr : Sc r) (hl : sp.length ≤ 1000000) :
    Calls Tryd.prog 51 #[.int .i32 r, .string (txt sp)] w fun e w' => e = .returned (.string (txt (escP sp r))) ∧ Below w.heap.size w w' := by
  have C := Lib.hid (irune_z sp r w hr hl)
  have HBR := Lib.hid (Below.refl w.heap.size w)
  obtain ⟨S, hS⟩ : ∃ S, txt (escP sp r) = S := ⟨_, rfl⟩
  rw [hS]
  have HS := Lib.hid hS.symm
  have hri := hr.i32
  have hen := encode_enc1 r hr
  clear hS
  by_cases h12 : r = 12
  · have HF : Hid (S = txt [92, 102]) := by show _ = _; rw [HS.out]; unfold escP; rw [if_pos h12]
    subst h12
    clear HS hen hr
    go_enter Tryd.func51, Tryd.ntmps51
    go_wp2
    go_ret
    exact ⟨by rw [HF.out]; rfl, HBR.out⟩
  by_cases h10 : r = 10
  · have HF : Hid (S = txt [92, 110]) := by show _ = _; rw [HS.out]; unfold escP; rw [if_neg h12, if_pos h10]
    subst h10
    clear HS hen hr h12
    go_enter Tryd.func51, Tryd.ntmps51
    go_wp2
    go_ret
    exact ⟨by rw [HF.out]; rfl, HBR.out⟩
  by_cases h13 : r = 13
  · have HF : Hid (S = txt [92, 114]) := by show _ = _; rw [HS.out]; unfold escP; rw [if_neg h12, if_neg h10, if_pos h13]
    subst h13
    clear HS hen hr h12 h10
    go_enter Tryd.func51, Tryd.ntmps51
    go_wp2
    go_ret
    exact ⟨by rw [HF.out]; rfl, HBR.out⟩
  by_cases h9 : r = 9
  · have HF : Hid (S = txt [92, 116]) := by show _ = _; rw [HS.out]; unfold escP; rw [if_neg h12, if_neg h10, if_neg h13, if_pos h9]
    subst h9
    clear HS hen hr h12 h10 h13
    go_enter Tryd.func51, Tryd.ntmps51
    go_wp2
    go_ret
    exact ⟨by rw [HF.out]; rfl, HBR.out⟩
  by_cases h92 : r = 92
  · have HF : Hid (S = txt [92, 92]) := by show _ = _; rw [HS.out]; unfold escP; rw [if_neg h12, if_neg h10, if_neg h13, if_neg h9, if_pos h92]
    subst h92
    clear HS hen hr h12 h10 h13 h9
    go_enter Tryd.func51, Tryd.ntmps51
    go_wp2
    go_ret
    exact ⟨by rw [HF.out]; rfl, HBR.out⟩
  have HF : Hid (S = txt (if hasR sp r = true then 92 :: enc1 r else enc1 r)) := by show _ = _; rw [HS.out]; unfold escP; rw [if_neg h12, if_neg h10, if_neg h13, if_neg h9, if_neg h92]
  have e12 : ((r : Int) == 12) = false := beq_eq_false_iff_ne.2 (by omega)
  have e10 : ((r : Int) == 10) = false := beq_eq_false_iff_ne.2 (by omega)
  have e13 : ((r : Int) == 13) = false := beq_eq_false_iff_ne.2 (by omega)
  have e9 : ((r : Int) == 9) = false := beq_eq_false_iff_ne.2 (by omega)
  have e92 : ((r : Int) == 92) = false := beq_eq_false_iff_ne.2 (by omega)
  have hz1 : (txt (enc1 r)).size ≤ 4 := by rw [txt_size]; exact enc1_le r
  clear HS h12 h10 h13 h9 h92 hr
  generalize hasR sp r = R at *
  cases R
  · go_enter Tryd.func51, Tryd.ntmps51
    go_wp2_with fail
    refine C.out.mono ?_
    rintro e w1 ⟨rfl, hb⟩
    have HB := Lib.hid hb
    clear hb
    go_wp2
    go_ret
    exact ⟨by rw [HF.out]; rfl, HB.out⟩
  · have HA : Hid (⟨#[92]⟩ ++ txt (enc1 r) = S) := by show _ = _; rw [HF.out, show (⟨#[92]⟩ : ByteArray) = txt [92] from rfl, txt_append]; rfl
    go_enter Tryd.func51, Tryd.ntmps51
    go_wp2_with fail
    refine C.out.mono ?_
    rintro e w1 ⟨rfl, hb⟩
    have HB := Lib.hid hb
    clear hb
    go_wp2
    go_ret
    exact ⟨congrArg (fun z => Ending.returned (.string z)) HA.out, HB.out⟩
end Go.Proofs.YtmmnljepbnifnaaDoor
