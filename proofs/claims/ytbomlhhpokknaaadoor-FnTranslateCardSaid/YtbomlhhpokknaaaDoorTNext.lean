/- nextRuneRange at any text: the next rune or range of a pattern. -/
import Derived.Test.YtbomlhhpokknaaaDoorQBase
import Derived.Test.YtbomlhhpokknaaaDoorTrPlain
namespace Go.Proofs.YtbomlhhpokknaaaDoor
open Go.RowKit U8
open Go.Lib hiding intOf

theorem results_tmp4 {fn : Func} {t u v x : Tmp} (h : fn.results = #[.tmp t, .tmp u, .tmp v, .tmp x]) (tmps : Array Value) (P : Program) (w : World) :
    (results fn tmps).run P w = .ok (.tuple #[tmps.getD t undef, tmps.getD u undef, tmps.getD v undef, tmps.getD x undef]) w := by
  simp [results, h]

set_option maxHeartbeats 3200000 in
set_option maxRecDepth 100000 in
theorem next_range (l : List UInt8) (last : Int) (w : World) (hl : l.length ≤ 1000000) (hT : Tabs w) (R : List UInt8 × Int × Int × Int) (hR : nrr l.length last false false l = R) :
    Calls Tryd.prog 40 #[.string (txt l), .int .i32 last] w fun e w' => e = .returned (.tuple #[.string (txt R.1), .int .i32 R.2.1, .int .i32 R.2.2.1, .int .i32 R.2.2.2]) ∧ Below w.heap.size w w' := by
  have HR := Lib.hid hR.symm
  clear hR
  go_enter Tryd.func40, Tryd.ntmps40
  go_wp2
  go_loopg [1, 4, 5, 6, 7, 10, 11] (l.length + 1) (fun gk la s st en sp es ir wr => ∃ (a : Int) (rest : List UInt8) (c : Int) (e i : Bool) (f : Nat), la = .int .i32 a ∧ s = .string (txt rest) ∧ st = .int .i32 c ∧ en = .int .i32 0 ∧ sp = .int .i32 0 ∧ es = .bool e ∧ ir = .bool i ∧ rest.length ≤ f ∧ f < gk ∧ rest.length ≤ 1000000 ∧ Hid (R = nrr f a e i rest) ∧ Below w.heap.size w wr)
  case atStart => exact ⟨last, l, 0, false, false, l.length, rfl, rfl, rfl, rfl, rfl, rfl, rfl, Nat.le_refl _, by omega, hl, HR.out, Below.refl _ _⟩
  case round =>
    obtain ⟨b, rest, c, e, i, f, rfl, rfl, rfl, rfl, rfl, rfl, rfl, hf, hg, hlen, hinv, hb⟩ := hrel
    have hTr := hT.below hb
    by_cases hne : rest = []
    · subst hne
      have h0 : (txt ([] : List UInt8)).size ≤ 0 := Nat.le_refl _
      have ex := hinv.out
      rw [nrr_nil] at ex
      by_cases hb1 : b = -1
      · subst hb1
        rw [if_pos rfl] at ex
        subst ex
        go_wp2
        (try simp only [Exit.inBlock, Exit.then])
        refine bodyPost_ret (results_tmp4 rfl _ _ _) rfl ?_
        exact ⟨rfl, hb⟩
      · rw [if_neg hb1] at ex
        subst ex
        have hbz : ((b : Int) == -1) = false := by simp; omega
        go_wp2
        (try simp only [Exit.inBlock, Exit.then])
        refine bodyPost_ret (results_tmp4 rfl _ _ _) rfl ?_
        exact ⟨rfl, hb⟩
    · obtain ⟨a, rest, r, rfl, ha, hd, hsc, _⟩ := first_part rest hne
      have hsz := size_pos a rest ha
      have hple := part_le a rest
      have hri := hsc.i32
      have hal : 0 < a.length := List.length_pos_iff.2 ha
      rw [List.length_append] at hf hlen
      obtain ⟨f, rfl⟩ : ∃ m, f = m + 1 := ⟨f - 1, by omega⟩
      obtain ⟨gk, rfl⟩ : ∃ m, gk = m + 1 := ⟨gk - 1, by omega⟩
      have hx := hinv.out
      rw [nrr_step f b e i a rest r ha hd] at hx
      have cD := Lib.hid (dec_list a rest r wr ha hd hTr)
      have hskip := txt_skip a rest
      clear hd hTr hne ha hinv
      cases e with
      | true =>
        rw [if_neg (by simp), if_neg (by simp)] at hx
        by_cases hb1 : b = -1
        · subst hb1
          rw [if_pos rfl] at hx
          have HX := Lib.hid hx
          clear hx
          go_wp2_with (go_at_call 41; refine cD.out.mono ?_; rintro e w1 ⟨rfl, hb1⟩)
          go_roundg gk
          case rel => exact ⟨r, rest, c, false, i, f, rfl, rfl, rfl, rfl, rfl, rfl, rfl, by omega, by omega, by omega, HX.out, hb.trans (hb1.mono hb.size)⟩
          case measure => omega
        · rw [if_neg hb1] at hx
          have hbz : ((b : Int) == -1) = false := by simp; omega
          cases i with
          | false =>
            rw [if_neg (by simp)] at hx
            simp only [Bool.false_eq_true, if_false] at hx
            subst hx
            go_wp2_with (go_at_call 41; refine cD.out.mono ?_; rintro e w1 ⟨rfl, hb1⟩)
            (try simp only [Exit.inBlock, Exit.then])
            refine bodyPost_ret (results_tmp4 rfl _ _ _) rfl ?_
            exact ⟨rfl, hb.trans (hb1.mono hb.size)⟩
          | true =>
            by_cases hbr : b = (r : Int)
            · rw [if_pos ⟨rfl, hbr⟩] at hx
              have hbe : (b == (r : Int)) = true := by simp [hbr]
              clear hbr
              have HX := Lib.hid hx
              clear hx
              go_wp2_with (go_at_call 41; refine cD.out.mono ?_; rintro e w1 ⟨rfl, hb1⟩)
              go_roundg gk
              case rel => exact ⟨b, rest, c, false, false, f, rfl, rfl, rfl, rfl, rfl, rfl, rfl, by omega, by omega, by omega, HX.out, hb.trans (hb1.mono hb.size)⟩
              case measure => omega
            · rw [if_neg (fun h => hbr h.2)] at hx
              have hbe : (b == (r : Int)) = false := by simp; omega
              by_cases hlt : b < (r : Int)
              · rw [if_pos rfl, if_pos hlt] at hx
                subst hx
                go_wp2_with (go_at_call 41; refine cD.out.mono ?_; rintro e w1 ⟨rfl, hb1⟩)
                (try simp only [Exit.inBlock, Exit.then])
                refine bodyPost_ret (results_tmp4 rfl _ _ _) rfl ?_
                exact ⟨rfl, hb.trans (hb1.mono hb.size)⟩
              · rw [if_pos rfl, if_neg hlt] at hx
                subst hx
                go_wp2_with (go_at_call 41; refine cD.out.mono ?_; rintro e w1 ⟨rfl, hb1⟩)
                (try simp only [Exit.inBlock, Exit.then])
                refine bodyPost_ret (results_tmp4 rfl _ _ _) rfl ?_
                exact ⟨rfl, hb.trans (hb1.mono hb.size)⟩
      | false =>
        by_cases h92 : (r : Int) = 92
        · rw [if_pos ⟨rfl, h92⟩] at hx
          have z92 : ((r : Int) == 92) = true := by simp; omega
          clear h92
          have HX := Lib.hid hx
          clear hx
          go_wp2_with (go_at_call 41; refine cD.out.mono ?_; rintro e w1 ⟨rfl, hb1⟩)
          go_roundg gk
          case rel => exact ⟨b, rest, c, true, i, f, rfl, rfl, rfl, rfl, rfl, rfl, rfl, by omega, by omega, by omega, HX.out, hb.trans (hb1.mono hb.size)⟩
          case measure => omega
        · rw [if_neg (fun h => h92 h.2)] at hx
          have z92 : ((r : Int) == 92) = false := by simp; omega
          by_cases h45 : (r : Int) = 45
          · rw [if_pos ⟨rfl, h45⟩] at hx
            have z45 : ((r : Int) == 45) = true := by simp; omega
            clear h45 h92
            by_cases hb1 : b = -1
            · subst hb1
              rw [if_pos rfl] at hx
              have HX := Lib.hid hx
              clear hx
              go_wp2_with (go_at_call 41; refine cD.out.mono ?_; rintro e w1 ⟨rfl, hb1⟩)
              go_roundg gk
              case rel => exact ⟨-1, rest, c, false, i, f, rfl, rfl, rfl, rfl, rfl, rfl, rfl, by omega, by omega, by omega, HX.out, hb.trans (hb1.mono hb.size)⟩
              case measure => omega
            · rw [if_neg hb1] at hx
              have hbz : ((b : Int) == -1) = false := by simp; omega
              have HX := Lib.hid hx
              clear hx
              go_wp2_with (go_at_call 41; refine cD.out.mono ?_; rintro e w1 ⟨rfl, hb1⟩)
              go_roundg gk
              case rel => exact ⟨b, rest, b, false, true, f, rfl, rfl, rfl, rfl, rfl, rfl, rfl, by omega, by omega, by omega, HX.out, hb.trans (hb1.mono hb.size)⟩
              case measure => omega
          · rw [if_neg (fun h => h45 h.2)] at hx
            have z45 : ((r : Int) == 45) = false := by simp; omega
            clear h45 h92
            by_cases hb1 : b = -1
            · subst hb1
              rw [if_pos rfl] at hx
              have HX := Lib.hid hx
              clear hx
              go_wp2_with (go_at_call 41; refine cD.out.mono ?_; rintro e w1 ⟨rfl, hb1⟩)
              go_roundg gk
              case rel => exact ⟨r, rest, c, false, i, f, rfl, rfl, rfl, rfl, rfl, rfl, rfl, by omega, by omega, by omega, HX.out, hb.trans (hb1.mono hb.size)⟩
              case measure => omega
            · rw [if_neg hb1] at hx
              have hbz : ((b : Int) == -1) = false := by simp; omega
              cases i with
              | false =>
                rw [if_neg (by simp)] at hx
                simp only [Bool.false_eq_true, if_false] at hx
                subst hx
                go_wp2_with (go_at_call 41; refine cD.out.mono ?_; rintro e w1 ⟨rfl, hb1⟩)
                (try simp only [Exit.inBlock, Exit.then])
                refine bodyPost_ret (results_tmp4 rfl _ _ _) rfl ?_
                exact ⟨rfl, hb.trans (hb1.mono hb.size)⟩
              | true =>
                by_cases hbr : b = (r : Int)
                · rw [if_pos ⟨rfl, hbr⟩] at hx
                  have hbe : (b == (r : Int)) = true := by simp [hbr]
                  clear hbr
                  have HX := Lib.hid hx
                  clear hx
                  go_wp2_with (go_at_call 41; refine cD.out.mono ?_; rintro e w1 ⟨rfl, hb1⟩)
                  go_roundg gk
                  case rel => exact ⟨b, rest, c, false, false, f, rfl, rfl, rfl, rfl, rfl, rfl, rfl, by omega, by omega, by omega, HX.out, hb.trans (hb1.mono hb.size)⟩
                  case measure => omega
                · rw [if_neg (fun h => hbr h.2)] at hx
                  have hbe : (b == (r : Int)) = false := by simp; omega
                  by_cases hlt : b < (r : Int)
                  · rw [if_pos rfl, if_pos hlt] at hx
                    subst hx
                    go_wp2_with (go_at_call 41; refine cD.out.mono ?_; rintro e w1 ⟨rfl, hb1⟩)
                    (try simp only [Exit.inBlock, Exit.then])
                    refine bodyPost_ret (results_tmp4 rfl _ _ _) rfl ?_
                    exact ⟨rfl, hb.trans (hb1.mono hb.size)⟩
                  · rw [if_pos rfl, if_neg hlt] at hx
                    subst hx
                    go_wp2_with (go_at_call 41; refine cD.out.mono ?_; rintro e w1 ⟨rfl, hb1⟩)
                    (try simp only [Exit.inBlock, Exit.then])
                    refine bodyPost_ret (results_tmp4 rfl _ _ _) rfl ?_
                    exact ⟨rfl, hb.trans (hb1.mono hb.size)⟩

end Go.Proofs.YtbomlhhpokknaaaDoor
