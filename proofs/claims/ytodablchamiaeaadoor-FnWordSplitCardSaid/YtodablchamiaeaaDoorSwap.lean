/- The contract of SwapCase at texts of ASCII. -/
import Derived.Test.YtodablchamiaeaaDoorAscii
import Derived.Test.YtodablchamiaeaaDoorScrub
import Derived.Lib.LaidU8
namespace Go.Proofs.YtodablchamiaeaaDoor
open Go.RowKit U8
open Go.Lib hiding intOf

/-- The library's table of properties, as it lies in a world. -/
def Props (w : World) : Prop := Lib.TabIs Tryd.prog w "unicode.properties" .u8 Lib.propertiesTab
theorem Props.below {w w' : World} (h : Props w) (hb : Below w.heap.size w w') : Props w' := TabIs_below (P := Tryd.prog) (g := 2) (by kernel_rfl) h hb

theorem tabIs_of_reads {P : Program} {W : World} {name : String} {k : IntKind} {zs : List Int} {g : Nat} {t e : TypeId} {n : Nat}
    (hg : P.globalNamed name = some g) (hty : (P.globals[g]?).map (·.type) = some t) (ht : P.underlying t = some (.array n e)) (he : P.underlying e = some (.int k)) (hce : P.cellsOf e = 1) (hct : P.cellsOf t = n)
    (h : VarReads P W name (tabData k zs)) : TabIs P W name k zs := by
  obtain ⟨g', t', cs, fuel, p, hg', ht', hvar, hd⟩ := h
  obtain rfl := Option.some.inj (hg.symm.trans hg')
  obtain rfl := Option.some.inj (hty.symm.trans ht')
  unfold TabIs
  rw [hvar, ← cells_of_tab ht he hce hct hd]
theorem props_of {W : World} (h : VarReads Tryd.prog W "unicode.properties" (tabData .u8 propertiesTab)) : Props W :=
  tabIs_of_reads (g := 2) (t := 59) (e := 5) (by kernel_rfl) (by kernel_rfl) Tryd.underlying59 Tryd.underlying5 (by kernel_rfl) (by kernel_rfl) h

def swN (r : Nat) : Nat := if 65 ≤ r ∧ r ≤ 90 then r + 32 else if 97 ≤ r ∧ r ≤ 122 then r - 32 else r
def swB (b : UInt8) : UInt8 := if 97 ≤ b.toNat ∧ b.toNat ≤ 122 then (b.toNat - 32).toUInt8 else if 65 ≤ b.toNat ∧ b.toNat ≤ 90 then (b.toNat + 32).toUInt8 else b
theorem swN_lt {r : Nat} (h : r < 128) : swN r < 128 := by
  unfold swN
  split
  · omega
  · split <;> omega
theorem swB_of {r : Nat} (h : r < 128) : swB r.toUInt8 = (swN r).toUInt8 := by
  unfold swB swN
  rw [u8_toNat (by omega)]
  by_cases k : 97 ≤ r ∧ r ≤ 122
  · rw [if_pos k, if_neg (by omega), if_pos k]
  · rw [if_neg k]
    by_cases k2 : 65 ≤ r ∧ r ≤ 90
    · rw [if_pos k2, if_pos k2]
    · rw [if_neg k2, if_neg k2, if_neg k]
theorem asc.map {rs : List Nat} (h : asc rs) : asc (rs.map swN) := fun x hx => by
  obtain ⟨r, hr, rfl⟩ := List.mem_map.1 hx
  exact swN_lt (h r hr)
theorem enc_swap {rs : List Nat} (h : asc rs) : (enc rs).map swB = enc (rs.map swN) := by
  rw [enc_asc h, enc_asc h.map, List.map_map, List.map_map]
  exact List.map_congr_left fun r hr => swB_of (h r hr)
theorem isUp_yes {r : Nat} (h : 65 ≤ r ∧ r ≤ 90) : isUpperL (r : Int) = true := by unfold isUpperL; rw [decide_eq_true_eq]; omega
theorem isUp_no {r : Nat} (h8 : r < 128) (h : ¬ (65 ≤ r ∧ r ≤ 90)) : isUpperL (r : Int) = false := by unfold isUpperL; rw [decide_eq_false_iff_not]; omega
theorem isLo_yes {r : Nat} (h : 97 ≤ r ∧ r ≤ 122) : isLowerL (r : Int) = true := by unfold isLowerL; rw [decide_eq_true_eq]; omega
theorem isLo_no {r : Nat} (h8 : r < 128) (h : ¬ (97 ≤ r ∧ r ≤ 122)) : isLowerL (r : Int) = false := by unfold isLowerL; rw [decide_eq_false_iff_not]; omega

set_option maxHeartbeats 1600000 in
set_option maxRecDepth 100000 in
theorem swap_any (rs : List Nat) (w : World) (ha : asc rs) (hl : rs.length ≤ 1000000) (hT : Tabs w) (hP : Props w) :
    Calls Tryd.prog 68 #[.string (txt (enc rs))] w fun e w' => e = .returned (.string (txt (enc (rs.map swN)))) ∧ Below w.heap.size w w' := by
  go_enter Tryd.func68, Tryd.ntmps68
  go_wp2
  go_loopg [0] (rs.length + 1) (fun gk s wr => ∃ p rest : List Nat, Hid (rs = p ++ rest) ∧ s = .string (txt (enc rest)) ∧ Hid (Bld w.heap.size w.heap.size (enc (p.map swN)) wr) ∧ rest.length < gk ∧ asc rest ∧ p.length ≤ 1000000 ∧ (enc (p.map swN)).length = p.length ∧ Below w.heap.size w wr)
  case atStart => exact ⟨[], rs, rfl, rfl, bld_fresh _ _ (Nat.le_refl _), by omega, ha, by simp, rfl, (Below.refl _ _).alloc (Nat.le_refl _) _⟩
  case round =>
    obtain ⟨p, rest, HR, rfl, hbl, hg, har, hpl, hpe, hb⟩ := hrel
    have hbs := hb.size
    cases rest with
    | nil =>
      have h0 : (txt (enc [])).size ≤ 0 := Nat.le_refl _
      go_wp2_with fail
      refine (bld_string w.heap.size w.heap.size _ _ hbl.out hbs).mono ?_
      rintro e w1 ⟨rfl, _, hb1, _⟩
      go_wp2
      go_ret
      have e := HR.out
      rw [List.append_nil] at e
      exact ⟨by rw [e]; rfl, hb.trans hb1⟩
    | cons r rest =>
      have h8 : r < 128 := har.head
      have hr : Sc r := har.scs.head
      have hr2 : Sc (swN r) := by have := swN_lt h8; unfold Sc; omega
      have hri := hr.i32
      have hsz := enc_size_pos r rest
      have hple := enc1_size_le r rest
      have hskip := rest_enc r rest
      rw [List.length_cons] at hg
      have hpl2 : p.length + 1 ≤ 1000000 := by have h := congrArg List.length HR.out; rw [List.length_append, List.length_cons] at h; omega
      have cD := Lib.hid (dec_any r rest wr hr (hT.below hb))
      have cUp := Lib.hid fun W (h : Props W) => Tryd.unicode_IsUpper r W (by omega) h
      have cLo := Lib.hid fun W (h : Props W) => Tryd.unicode_IsLower r W (by omega) h
      have hPr := hP.below hb
      have HFin : Hid (∀ W, Bld w.heap.size w.heap.size (enc (p.map swN) ++ enc1 (swN r)) W → Bld w.heap.size w.heap.size (enc ((p ++ [r]).map swN)) W) := fun W h => by rw [List.map_append, enc_append, List.map_cons, List.map_nil, enc_one]; exact h
      have HLen : Hid ((enc ((p ++ [r]).map swN)).length = (p ++ [r]).length) := by
        show _ = _
        rw [List.map_append, enc_append, List.map_cons, List.map_nil, enc_one, List.length_append, hpe, enc1_asc (swN_lt h8), List.length_append]; rfl
      obtain ⟨gk, rfl⟩ : ∃ m, gk = m + 1 := ⟨gk - 1, by omega⟩
      by_cases hu : 65 ≤ r ∧ r ≤ 90
      · have e1 := isUp_yes hu
        rw [e1] at cUp
        have hq : swN r = r + 32 := by unfold swN; rw [if_pos hu]
        have cT := Lib.hid fun W : World => Tryd.unicode_ToLower r W (by omega)
        rw [show toLowerR (r : Int) = ((r + 32 : Nat) : Int) by unfold toLowerR; rw [if_pos (by omega)]; omega] at cT
        rw [hq] at HFin hr2
        clear e1 hq hu
        generalize r + 32 = q at *
        go_wp2_with (first
          | (go_at_call 52; refine cD.out.mono ?_; rintro e w1 ⟨rfl, hb1⟩)
          | (go_at_call 85; refine (cUp.out _ (hPr.below hb1)).mono ?_; rintro e w1 ⟨rfl, rfl⟩)
          | (go_at_call 83; refine (cT.out _).mono ?_; rintro e w1 ⟨rfl, rfl⟩)
          | (go_at_call 82; refine (bld_rune w.heap.size w.heap.size _ q _ (hbl.out.below hb1) hr2 (by omega) (Nat.le_trans hbs hb1.size)).mono ?_; rintro e w2 ⟨rfl, hbl2, hb2, _⟩))
        go_roundg gk
        case rel =>
          refine ⟨p ++ [r], rest, ?_, rfl, HFin.out _ hbl2, by omega, har.tail, by rw [List.length_append]; exact hpl2, HLen.out, (hb.trans (hb1.mono hbs)).trans hb2⟩
          show _ = _
          rw [HR.out]; simp
        case measure => omega
      · have e1 := isUp_no h8 hu
        rw [e1] at cUp
        by_cases hlo : 97 ≤ r ∧ r ≤ 122
        · have e2 := isLo_yes hlo
          rw [e2] at cLo
          have hq : swN r = r - 32 := by unfold swN; rw [if_neg hu, if_pos hlo]
          have cT := Lib.hid fun W : World => Tryd.unicode_ToUpper r W (by omega)
          rw [show toUpperR (r : Int) = ((r - 32 : Nat) : Int) by unfold toUpperR; rw [if_pos (by omega)]; omega] at cT
          rw [hq] at HFin hr2
          clear e1 e2 hq hu hlo
          generalize r - 32 = q at *
          go_wp2_with (first
            | (go_at_call 52; refine cD.out.mono ?_; rintro e w1 ⟨rfl, hb1⟩)
            | (go_at_call 85; refine (cUp.out _ (hPr.below hb1)).mono ?_; rintro e w1 ⟨rfl, rfl⟩)
            | (go_at_call 86; refine (cLo.out _ (hPr.below hb1)).mono ?_; rintro e w1 ⟨rfl, rfl⟩)
            | (go_at_call 81; refine (cT.out _).mono ?_; rintro e w1 ⟨rfl, rfl⟩)
            | (go_at_call 82; refine (bld_rune w.heap.size w.heap.size _ q _ (hbl.out.below hb1) hr2 (by omega) (Nat.le_trans hbs hb1.size)).mono ?_; rintro e w2 ⟨rfl, hbl2, hb2, _⟩))
          go_roundg gk
          case rel =>
            refine ⟨p ++ [r], rest, ?_, rfl, HFin.out _ hbl2, by omega, har.tail, by rw [List.length_append]; exact hpl2, HLen.out, (hb.trans (hb1.mono hbs)).trans hb2⟩
            show _ = _
            rw [HR.out]; simp
          case measure => omega
        · have e2 := isLo_no h8 hlo
          rw [e2] at cLo
          have hq : swN r = r := by unfold swN; rw [if_neg hu, if_neg hlo]
          rw [hq] at HFin hr2
          clear e1 e2 hq hu hlo
          go_wp2_with (first
            | (go_at_call 52; refine cD.out.mono ?_; rintro e w1 ⟨rfl, hb1⟩)
            | (go_at_call 85; refine (cUp.out _ (hPr.below hb1)).mono ?_; rintro e w1 ⟨rfl, rfl⟩)
            | (go_at_call 86; refine (cLo.out _ (hPr.below hb1)).mono ?_; rintro e w1 ⟨rfl, rfl⟩)
            | (go_at_call 82; refine (bld_rune w.heap.size w.heap.size _ r _ (hbl.out.below hb1) hr2 (by omega) (Nat.le_trans hbs hb1.size)).mono ?_; rintro e w2 ⟨rfl, hbl2, hb2, _⟩))
          go_roundg gk
          case rel =>
            refine ⟨p ++ [r], rest, ?_, rfl, HFin.out _ hbl2, by omega, har.tail, by rw [List.length_append]; exact hpl2, HLen.out, (hb.trans (hb1.mono hbs)).trans hb2⟩
            show _ = _
            rw [HR.out]; simp
          case measure => omega
theorem implSwap_any (rs : List Nat) (w : World) (ha : asc rs) (hl : rs.length ≤ 1000000) (hT : Tabs w) (hP : Props w) :
    Calls Tryd.prog 44 #[.string (txt (enc rs))] w fun e w' => e = .returned (.string (txt (enc (rs.map swN)))) ∧ Below w.heap.size w w' := by
  go_enter Tryd.func44, Tryd.ntmps44
  go_wp2_with (go_at_call 68; refine (swap_any rs _ ha hl hT hP).mono ?_; rintro e w' ⟨rfl, hb⟩)
  go_ret
  exact ⟨rfl, hb⟩
theorem swap_ab (w : World) (hT : Tabs w) (hP : Props w) :
    Calls Tryd.prog 44 #[.string ⟨#[97, 66, 49]⟩] w fun e w' => e = .returned (.string ⟨#[65, 98, 49]⟩) ∧ Below w.heap.size w w' :=
  implSwap_any [97, 66, 49] w (fun x hx => by simp at hx; omega) (by decide) hT hP

end Go.Proofs.YtodablchamiaeaaDoor
