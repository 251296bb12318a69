/- The law FnXCamelSays: what words are in camel case and in pascal case. -/
import Derived.Test.YthanbbflemkomaaDoorMXc
import Derived.Test.YthanbbflemkomaaDoorMCam
import Derived.Lib.LaidU8
import Derived.Lib.LaidRTab
import Derived.Lib.LaidCase
namespace Go.Proofs.YthanbbflemkomaaDoor
open Go.RowKit U8 Go.Shelf
open Go.Lib hiding intOf

theorem tabIs_of_reads2 {P : Program} {W : World} {name : String} {k : IntKind} {zs : List Int} {g : Nat} {t e : TypeId} {n : Nat}
    (hg : P.globalNamed name = some g) (hty : (P.globals[g]?).map (·.type) = some t) (ht : P.underlying t = some (.array n e)) (he : P.underlying e = some (.int k)) (hce : P.cellsOf e = 1) (hct : P.cellsOf t = n)
    (h : VarReads P W name (tabData k zs)) : TabIs P W name k zs := by
  obtain ⟨g', t', cs, fuel, p, hg', ht', hvar, hd⟩ := h
  obtain rfl := Option.some.inj (hg.symm.trans hg')
  obtain rfl := Option.some.inj (hty.symm.trans ht')
  unfold TabIs
  rw [hvar, ← cells_of_tab ht he hce hct hd]
theorem ut_of {W : World} (h2 : VarReads Tryd.prog W "unicode/utf8.first" firstData) (h3 : VarReads Tryd.prog W "unicode/utf8.acceptRanges" acceptData) (h4 : VarReads Tryd.prog W "unicode.White_Space" whiteData)
    (h5 : VarReads Tryd.prog W "unicode.properties" (tabData .u8 propertiesTab)) (h6 : VarReads Tryd.prog W "unicode.Upper" (rtabData upperT)) (h7 : VarReads Tryd.prog W "unicode.CaseRanges" caseData) : Ut W :=
  ⟨utf8Tabs_of_reads { Tryd.lays260 with } ⟨by kernel_rfl, by kernel_rfl, by kernel_rfl, by kernel_rfl, by kernel_rfl, by kernel_rfl, by kernel_rfl⟩ h2 h3,
   whiteTab_of_reads { Tryd.lays199 with } ⟨by kernel_rfl, by kernel_rfl, by kernel_rfl, by kernel_rfl, by kernel_rfl, by kernel_rfl, by kernel_rfl, by kernel_rfl⟩ h4,
   tabIs_of_reads2 (g := 0) (t := 67) (e := 5) (by kernel_rfl) (by kernel_rfl) Tryd.underlying67 Tryd.underlying5 (by kernel_rfl) (by kernel_rfl) h5,
   rvar_of_reads { Tryd.lays261 with } ⟨by kernel_rfl, by kernel_rfl, by kernel_rfl, by kernel_rfl, by kernel_rfl, by kernel_rfl, by kernel_rfl, by kernel_rfl⟩ (by kernel_rfl) (by kernel_rfl) h6,
   caseVar_of_reads { Tryd.lays203 with } Tryd.lays203.t206 ⟨by kernel_rfl, by kernel_rfl, by kernel_rfl, by kernel_rfl, by kernel_rfl, by kernel_rfl⟩ h7⟩

theorem camelCase_any (l : List UInt8) (w : World) (hl : l.length ≤ 1000000) (hT : Ut w) :
    Calls Tryd.prog 18 #[.string (txt l)] w fun e w' => e = .returned (.string (txt (xA false (rns l)))) ∧ Below w.heap.size w w' := by
  have C := Lib.hid fun W (h : Ut W) => xcamel_any l false W hl h
  go_enter Tryd.func18, Tryd.ntmps18
  go_wp2_with (first
    | (go_at_call 65; refine (C.out _ hT).mono ?_; rintro e w1 ⟨rfl, hb1⟩)
    | go_in)
  go_ret
  exact ⟨rfl, hb1⟩
theorem pascalCase_any (l : List UInt8) (w : World) (hl : l.length ≤ 1000000) (hT : Ut w) :
    Calls Tryd.prog 19 #[.string (txt l)] w fun e w' => e = .returned (.string (txt (xA true (rns l)))) ∧ Below w.heap.size w w' := by
  have C := Lib.hid fun W (h : Ut W) => xcamel_any l true W hl h
  go_enter Tryd.func19, Tryd.ntmps19
  go_wp2_with (first
    | (go_at_call 65; refine (C.out _ hT).mono ?_; rintro e w1 ⟨rfl, hb1⟩)
    | go_in)
  go_ret
  exact ⟨rfl, hb1⟩
def exA : List UInt8 := [115, 111, 109, 101, 95, 119, 111, 114, 100, 115]
def exB : List UInt8 := [115, 111, 109, 101, 32, 119, 111, 114, 100, 115]
def exC : List UInt8 := [95, 99, 111, 109, 112, 108, 101, 120, 95, 95, 99, 97, 115, 101, 95]
theorem ex1 (w : World) (hT : Ut w) : Calls Tryd.prog 18 #[.string ⟨#[115, 111, 109, 101, 95, 119, 111, 114, 100, 115]⟩] w fun e w' => e = .returned (.string ⟨#[115, 111, 109, 101, 87, 111, 114, 100, 115]⟩) ∧ Below w.heap.size w w' := by
  have h := camelCase_any exA w (by decide) hT
  rw [show xA false (rns exA) = [115, 111, 109, 101, 87, 111, 114, 100, 115] by decide +kernel] at h
  exact h
theorem ex2 (w : World) (hT : Ut w) : Calls Tryd.prog 19 #[.string ⟨#[115, 111, 109, 101, 32, 119, 111, 114, 100, 115]⟩] w fun e w' => e = .returned (.string ⟨#[83, 111, 109, 101, 87, 111, 114, 100, 115]⟩) ∧ Below w.heap.size w w' := by
  have h := pascalCase_any exB w (by decide) hT
  rw [show xA true (rns exB) = [83, 111, 109, 101, 87, 111, 114, 100, 115] by decide +kernel] at h
  exact h
theorem ex3 (w : World) (hT : Ut w) : Calls Tryd.prog 18 #[.string ⟨#[95, 99, 111, 109, 112, 108, 101, 120, 95, 95, 99, 97, 115, 101, 95]⟩] w fun e w' => e = .returned (.string ⟨#[95, 99, 111, 109, 112, 108, 101, 120, 95, 67, 97, 115, 101, 95]⟩) ∧ Below w.heap.size w w' := by
  have h := camelCase_any exC w (by decide) hT
  rw [show xA false (rns exC) = [95, 99, 111, 109, 112, 108, 101, 120, 95, 67, 97, 115, 101, 95] by decide +kernel] at h
  exact h
theorem ex4 (w : World) (hT : Ut w) : Calls Tryd.prog 19 #[.string ⟨#[95, 99, 111, 109, 112, 108, 101, 120, 95, 95, 99, 97, 115, 101, 95]⟩] w fun e w' => e = .returned (.string ⟨#[95, 67, 111, 109, 112, 108, 101, 120, 95, 67, 97, 115, 101, 95]⟩) ∧ Below w.heap.size w w' := by
  have h := pascalCase_any exC w (by decide) hT
  rw [show xA true (rns exC) = [95, 67, 111, 109, 112, 108, 101, 120, 95, 67, 97, 115, 101, 95] by decide +kernel] at h
  exact h
theorem told_x (g : Bool) (l : List UInt8) (w : World) :
    Calls Tryd.prog 22 #[.string (txt (xA g (rns l))), .string (txt (xres g l).1), .int .i64 (xres g l).2] w fun e w' => e = .returned (.bool true) ∧ w' = w := by
  cases hp : pt [] [] l with
  | none =>
    rw [show xres g l = ([], 2) by unfold xres; rw [hp]]
    exact told_open _ _ w
  | some ws =>
    cases hk : okW ws with
    | false =>
      rw [show xres g l = ([], 2) by unfold xres; rw [hp]; simp [hk]]
      exact told_open _ _ w
    | true =>
      rw [show xres g l = (xcs g ws, 1) by unfold xres; rw [hp]; simp [hk], says_law g l ws hp hk]
      exact told_yes _ w

set_option maxHeartbeats 3200000 in
set_option maxRecDepth 100000 in
theorem law_xCamelSays (s : ByteArray) (w : World) (hsz : s.size ≤ 140737488351232) (hT : Ut w) :
    Calls Tryd.prog 4 #[.string s] w fun e w' => e = .returned (.bool true) ∧ Below w.heap.size w w' := by
  by_cases hbig : 2147483647 < s.size
  · go_enter Tryd.func4, Tryd.ntmps4
    go_wp2
    go_ret
    exact ⟨rfl, Below.refl _ _⟩
  have hle : s.size ≤ 2147483647 := by omega
  clear hbig hsz
  have C1 := Lib.hid fun W (h : Ut W) => ex1 W h
  have C2 := Lib.hid fun W (h : Ut W) => ex2 W h
  have C3 := Lib.hid fun W (h : Ut W) => ex3 W h
  have C4 := Lib.hid fun W (h : Ut W) => ex4 W h
  have HT := Lib.hid hT
  clear hT
  cases hf : decide (1 + s.size ≤ 400) with
  | false =>
    have cF := Lib.hid fun W => few1 s false W hle hf
    clear hf
    go_enter Tryd.func4, Tryd.ntmps4
    go_wp2_with fail
    refine (C1.out _ HT.out).mono ?_
    rintro e w1 ⟨rfl, hb1⟩
    have HB1 := Lib.hid hb1
    clear hb1
    go_wp2_with fail
    refine (C2.out _ (HT.out.below HB1.out)).mono ?_
    rintro e w2 ⟨rfl, hb2⟩
    have HB2 := Lib.hid (chain HB1.out hb2)
    clear hb2
    go_wp2_with fail
    refine (C3.out _ (HT.out.below HB2.out)).mono ?_
    rintro e w3 ⟨rfl, hb3⟩
    have HB3 := Lib.hid (chain HB2.out hb3)
    clear hb3
    go_wp2_with fail
    refine (C4.out _ (HT.out.below HB3.out)).mono ?_
    rintro e w4 ⟨rfl, hb4⟩
    have HB4 := Lib.hid (chain HB3.out hb4)
    clear hb4
    go_wp2_with fail
    refine (cF.out _).mono ?_
    rintro e w5 ⟨rfl, hb5⟩
    have HB5 := Lib.hid (chain HB4.out hb5)
    clear hb5
    go_wp2
    go_ret
    exact ⟨rfl, HB5.out⟩
  | true =>
    have cF := Lib.hid fun W => few1 s true W hle hf
    obtain ⟨l, rfl⟩ : ∃ l, s = txt l := ⟨s.data.toList, (list_txt s).symm⟩
    have hl : l.length ≤ 400 := by rw [decide_eq_true_eq, txt_size] at hf; omega
    have cA := fun W (k : Ut W) => camelCase_any l W (by omega) k
    have cB := fun W (k : Ut W) => pascalCase_any l W (by omega) k
    have sA := fun W => sxcamel_any l false W (by omega)
    have sB := fun W => sxcamel_any l true W (by omega)
    have tA := fun W => told_x false l W
    have tB := fun W => told_x true l W
    clear hf
    generalize xA false (rns l) = A at *
    generalize xA true (rns l) = B at *
    generalize (xres false l).1 = A1 at *
    generalize (xres false l).2 = A2 at *
    generalize (xres true l).1 = B1 at *
    generalize (xres true l).2 = B2 at *
    have CA := Lib.hid cA
    have CB := Lib.hid cB
    have SA := Lib.hid sA
    have SB := Lib.hid sB
    have TA := Lib.hid tA
    have TB := Lib.hid tB
    clear cA cB sA sB tA tB
    go_enter Tryd.func4, Tryd.ntmps4
    go_wp2_with fail
    refine (C1.out _ HT.out).mono ?_
    rintro e w1 ⟨rfl, hb1⟩
    have HB1 := Lib.hid hb1
    clear hb1
    go_wp2_with fail
    refine (C2.out _ (HT.out.below HB1.out)).mono ?_
    rintro e w2 ⟨rfl, hb2⟩
    have HB2 := Lib.hid (chain HB1.out hb2)
    clear hb2
    go_wp2_with fail
    refine (C3.out _ (HT.out.below HB2.out)).mono ?_
    rintro e w3 ⟨rfl, hb3⟩
    have HB3 := Lib.hid (chain HB2.out hb3)
    clear hb3
    go_wp2_with fail
    refine (C4.out _ (HT.out.below HB3.out)).mono ?_
    rintro e w4 ⟨rfl, hb4⟩
    have HB4 := Lib.hid (chain HB3.out hb4)
    clear hb4
    go_wp2_with fail
    refine (cF.out _).mono ?_
    rintro e w5 ⟨rfl, hb5⟩
    have HB5 := Lib.hid (chain HB4.out hb5)
    clear hb5
    go_wp2_with fail
    refine (SA.out _).mono ?_
    rintro e w6 ⟨rfl, hb6⟩
    have HB6 := Lib.hid (chain HB5.out hb6)
    clear hb6
    go_wp2_with fail
    refine (SB.out _).mono ?_
    rintro e w7 ⟨rfl, hb7⟩
    have HB7 := Lib.hid (chain HB6.out hb7)
    clear hb7
    go_wp2_with fail
    refine (CA.out _ (HT.out.below HB7.out)).mono ?_
    rintro e w8 ⟨rfl, hb8⟩
    have HB8 := Lib.hid (chain HB7.out hb8)
    clear hb8
    go_wp2_with fail
    refine (TA.out _).mono ?_
    rintro e w9 ⟨rfl, hw9⟩
    obtain rfl := hw9.symm
    go_wp2_with fail
    refine (CB.out _ (HT.out.below HB8.out)).mono ?_
    rintro e w10 ⟨rfl, hb10⟩
    have HB10 := Lib.hid (chain HB8.out hb10)
    clear hb10
    go_wp2_with fail
    refine (TB.out _).mono ?_
    rintro e w11 ⟨rfl, hw11⟩
    obtain rfl := hw11.symm
    go_wp2
    go_ret
    exact ⟨rfl, HB10.out⟩

end Go.Proofs.YthanbbflemkomaaDoor
