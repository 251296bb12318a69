/- godotenv.zzReplaceVars, expandVariables and extractVarValue at texts without dollar signs, quotes and returns. Conditions: such texts; their length. -/
import Derived.Test.YtdfhidnhkeapbaaDoorJLoc
import Derived.Deep.RegionWith
import Derived.BigQuiet
import Derived.StillTailTactics
import Derived.Deep.Cut
import Derived.Deep.CutRange
import Derived.Deep.DeepCutAuto
import Derived.Deep.QuietTactic
namespace Go.Proofs.YtdfhidnhkeapbaaDoor
open Go.RowKit U8
open Go.Lib hiding intOf

/-- A byte of the texts that are looked at. -/
def GoodB (c : UInt8) : Prop := c.toNat < 128 ∧ c.toNat ≠ 36 ∧ c.toNat ≠ 34 ∧ c.toNat ≠ 39 ∧ c.toNat ≠ 13
theorem byteCells_snoc (l : List UInt8) (k : Nat) (c : UInt8) (h : l.take (k + 1) = l.take k ++ [c]) : byteCells (l.take (k + 1)) = byteCells (l.take k) ++ [.int .u8 c.toNat] := by
  rw [h]; simp [byteCells]
set_option maxHeartbeats 3200000 in
set_option maxRecDepth 100000 in
theorem rv_any (l : List UInt8) (fn : Fn) (lb : Array Value) (w : World) (hg : ∀ x ∈ l, GoodB x) (hl : l.length ≤ 1000000) :
    Calls Tryd.prog 79 #[.string (txt l), .func fn #[] lb] w fun e w' => e = .returned (.string (txt l)) ∧ Below w.heap.size w w' := by
  obtain ⟨i0, hi, hz0, hz1, hz2⟩ := info_parts Tryd.infoU8
  have hts := txt_size l
  have HG := Lib.hid hg
  clear hg
  go_enter Tryd.func79, Tryd.ntmps79
  go_wp2
  go_loopg [5, 6] (l.length + 1) (fun gk v5 v6 wr => ∃ (k : Nat) (ao : Option Addr) (cap : Nat), v6 = .int .i64 k ∧ v5 = .slice ao k cap ∧ k ≤ l.length ∧ l.length - k < gk ∧ Hid (wr.ownsRow w.heap.size 5 1 (.slice ao k cap) k (byteCells (l.take k))) ∧ Hid (Below w.heap.size w wr))
  case atStart => exact ⟨0, none, 0, rfl, rfl, by omega, by omega, ⟨rfl, .inl ⟨rfl, rfl⟩⟩, Below.refl _ _⟩
  case round =>
    obtain ⟨k, ao, cap, rfl, rfl, hk, hg, HO, HB⟩ := hrel
    have hbs := HB.out.size
    by_cases hlt : k < l.length
    · obtain ⟨gk, rfl⟩ : ∃ m, gk = m + 1 := ⟨gk - 1, by omega⟩
      have htk := List.take_succ_eq_append_getElem hlt
      have hgx := List.getElem?_eq_getElem hlt
      have hgc := HG.out _ (List.getElem_mem hlt)
      generalize l[k] = c at htk hgx hgc
      have HSN := Lib.hid (byteCells_snoc l k c htk)
      have hix := run_byte l k c hgx wr
      have hz36 : ¬ (c.toNat : Int) = 36 := by have := hgc.2.1; omega
      obtain ⟨y, hy⟩ : ∃ y, c.toNat = y := ⟨_, rfl⟩
      rw [hy] at hix hz36 HSN
      clear htk hgx hgc hy
      by_cases h92 : y = 92
      · subst h92
        by_cases hk2 : k + 1 = l.length
        · have hz : (k : Int) + 1 = l.length := by omega
          have hsl := eslice l k 1 (by omega) wr
          rw [show ((1 : Nat) : Int) = 1 from rfl] at hsl
          go_wp2_with (at_builtin; refine wpList_app1 rfl _ _ 52 5 rfl i0 (.int .u8 0) 1 Tryd.underlying52 hi hz0 hz1 hz2 rfl w.heap.size _ k _ rfl HO.out (.int .u8 92) rfl rfl (by omega) (by omega) hbs ?_)
          intro ao2 cap2 w4 hown4 hb4 hk4
          have HO4 := Lib.hid hown4
          have HB4 := Lib.hid (HB.out.trans hb4)
          clear hown4 hb4 hk4
          go_wp2
          go_roundg gk
          case rel =>
            refine ⟨k + 1, ao2, cap2, by go_num, by rw [hk2], by omega, by omega, ?_, HB4.out⟩
            rw [HSN.out]
            have h := HO4.out
            rw [← hk2] at h
            exact h
          case measure => omega
        · have hlt2 : k + 1 < l.length := by omega
          have hgx2 := List.getElem?_eq_getElem hlt2
          have hgc2 := HG.out _ (List.getElem_mem hlt2)
          generalize l[k + 1] = c2 at hgx2 hgc2
          have hix2 := run_byte l (k + 1) c2 hgx2 wr
          rw [show ((k + 1 : Nat) : Int) = (k : Int) + 1 from rfl] at hix2
          have hsl := eslice l k 1 (by omega) wr
          rw [show ((1 : Nat) : Int) = 1 from rfl] at hsl
          have hz : ¬ (k : Int) + 1 = l.length := by omega
          have hzb : ((k : Int) + 1 == l.length) = false := beq_eq_false_iff_ne.2 hz
          have hz362 : ¬ (c2.toNat : Int) = 36 := by have := hgc2.2.1; omega
          obtain ⟨y2, hy2⟩ : ∃ y, c2.toNat = y := ⟨_, rfl⟩
          rw [hy2] at hix2 hz362
          have hb36 : ((y2 : Int) == 36) = false := beq_eq_false_iff_ne.2 hz362
          clear hgx2 hgc2 hy2
          go_wp2_with (at_builtin; refine wpList_app1 rfl _ _ 52 5 rfl i0 (.int .u8 0) 1 Tryd.underlying52 hi hz0 hz1 hz2 rfl w.heap.size _ k _ rfl HO.out (.int .u8 92) rfl rfl (by omega) (by omega) hbs ?_)
          intro ao2 cap2 w4 hown4 hb4 hk4
          have HO4 := Lib.hid hown4
          have HB4 := Lib.hid (HB.out.trans hb4)
          clear hown4 hb4 hk4
          go_wp2
          go_roundg gk
          case rel => exact ⟨k + 1, ao2, cap2, by go_num, rfl, by omega, by omega, by rw [HSN.out]; exact HO4.out, HB4.out⟩
          case measure => omega
      · have hz92 : ¬ (y : Int) = 92 := by omega
        have hz : ¬ (k : Int) = l.length := by omega
        have hb36 : ((y : Int) == 36) = false := beq_eq_false_iff_ne.2 hz36
        have hbk : ((k : Int) == l.length) = false := beq_eq_false_iff_ne.2 hz
        go_wp2_with (at_builtin; refine wpList_app1 rfl _ _ 52 5 rfl i0 (.int .u8 0) 1 Tryd.underlying52 hi hz0 hz1 hz2 rfl w.heap.size _ k _ rfl HO.out (.int .u8 y) rfl rfl (by omega) (by omega) hbs ?_)
        intro ao2 cap2 w4 hown4 hb4 hk4
        have HO4 := Lib.hid hown4
        have HB4 := Lib.hid (HB.out.trans hb4)
        clear hown4 hb4 hk4
        go_wp2
        go_roundg gk
        case rel => exact ⟨k + 1, ao2, cap2, by go_num, rfl, by omega, by omega, by rw [HSN.out]; exact HO4.out, HB4.out⟩
        case measure => omega
    · obtain rfl : k = l.length := by omega
      have hcv : (convert 52 9 (.slice ao l.length cap)).run Tryd.prog wr = .ok (.string (txt l)) wr := by
        have h := HO.out
        rw [List.take_length] at h
        exact run_row_txt l h
      go_wp2
      go_ret
      exact ⟨rfl, HB.out⟩
set_option maxRecDepth 100000 in
theorem ev_any (l : List UInt8) (mb : Nat) (w : World) (hg : ∀ x ∈ l, GoodB x) (hl : l.length ≤ 1000000) :
    Calls Tryd.prog 57 #[.string (txt l), .map (some mb)] w fun e w' => e = .returned (.string (txt l)) ∧ Below w.heap.size w w' := by
  have HB := Lib.hid ((Below.refl w.heap.size w).alloc (Nat.le_refl _) (.cells #[.map (some mb)] 38))
  have C := Lib.hid fun fn lb => rv_any l fn lb (w.alloc (.cells #[.map (some mb)] 38)) hg hl
  clear hg
  go_enter Tryd.func57, Tryd.ntmps57
  go_wp2_with (go_at_call 79; refine (C.out _ _).mono ?_; rintro e wd ⟨rfl, hb⟩)
  go_ret
  exact ⟨rfl, HB.out.trans (hb.mono (by simp))⟩
end Go.Proofs.YtdfhidnhkeapbaaDoor
