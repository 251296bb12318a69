/- The law FnWordsVars holds for every input: its walk (YthekblmkcfkboaaDoorVLaw), the row, and the card, which ties the listed tables of Go's library to the program's text. No condition of our own. -/
import Derived.Test.YthekblmkcfkboaaDoorVLaw
import Derived.Test.YthekblmkcfkboaaDoorWSent
import Derived.Test.YthekblmkcfkboaaDoorCards
import Derived.Test.YthekblmkcfkboaaDoorTie
import Derived.WalkKit
import Derived.ProofKit
import Derived.OpenShut
import Derived.ShutString
import Derived.SizedLaws
import Derived.PinnedBridge
import Derived.Lay
import Derived.SevenTiedAt
import Derived.Lib.LaidU8
import Derived.Lib.LaidRTab
import Derived.Lib.LaidCase
namespace Go.Proofs.YthekblmkcfkboaaDoor.fnWordsVars
open Go.ChangeShapes Go.WideShapes Go.ChangeAt Go.RowKit Go.Shelf Go.Lib
open Go.ChangeMaps (open_string shut_string)
set_option linter.unusedVariables false
theorem own : ownKnob Tryd.prog.godebug = none := by kernel_rfl
set_option maxRecDepth 100000 in
theorem lifted (os : Os) (started : os.Started) (H : Type) (enc : TypeId × Value → H) :
    ReturnsInHanded {} Tryd.checked os 8 .any (fun w args => (Rows.fnWordsVarsSpec.pre enc Tryd.prog Tryd.f8 [] false w args ∧ laidMetH Tryd.prog Rows.fnWordsVarsRow.laid w) ∧ sizedMet enc Tryd.prog Tryd.f8 (OpenSpec.ofChange Rows.fnWordsVarsSpec) false w args)
      (Rows.fnWordsVarsSpec.post enc Tryd.prog Tryd.f8 false true false false) := by
  refine returnsInHanded_of_change_and (C := Tryd.checked) (X := fun w _ => laidMetH Tryd.prog Rows.fnWordsVarsRow.laid w) (fun _ _ _ hh h => h.of_heap hh) own started (by kernel_rfl) Tryd.func8
    (ChangeSpec.witness_shaped (enc := enc) (C := Tryd.checked) (os := os) (X := fun w _ => laidMetH Tryd.prog Rows.fnWordsVarsRow.laid w) false (World.laidAll Tryd.prog os Rows.fnWordsVarsRow.laid) #[.string ⟨#[]⟩, .string ⟨#[]⟩] 8 (World.laidAll_os _ _ _)
      (World.shaped_of_ZipB (by kernel_rfl) (by kernel_rfl)) (by kernel_rfl) (by kernel_rfl) (by kernel_rfl)
      (by rw [MakeChecks.laidMetH_plain _ _ _ (by kernel_rfl)]; exact laidMet_laidAll _ (by kernel_rfl) (by kernel_rfl))) ?_
  intro W base args ds gs before hval0 hW _ hsz0 hL _
  have hsz : (DataW.weightsEach Tryd.prog (Tryd.f8.params.toList ++ Rows.fnWordsVarsSpec.plain.varTypes Tryd.prog) (ds ++ gs)).all (· ≤ reachBytes) = true := hsz0
  have hval : ∀ (j : Nat) t v, Tryd.f8.params[j]? = some t → args[j]? = some v → Value.okWide Tryd.prog W .any base t v := hval0
  have hW' := hW
  obtain ⟨p, q, hA0, hV, rfl, _, _⟩ := hW
  have hA : DataW.TrodAll enc Tryd.prog W 0 (fun _ => true) true Tryd.f8.params.toList args.toList ds p := hA0
  rw [Tryd.params8] at hA hval hsz
  obtain ⟨v0, vs0, d0, ds0, p0, q0, hargs, rfl, rfl, h0, r0⟩ := trodAll_cons hA
  obtain ⟨v1, vs1, d1, ds1, p1, q1, rfl, rfl, rfl, h1, r1⟩ := trodAll_cons r0
  obtain ⟨rfl, rfl, rfl⟩ := trodAll_nil r1
  obtain rfl : args = #[v0, v1] := by cases args; simp_all
  obtain ⟨rfl, rfl⟩ := trodVars_none hV
  obtain ⟨a0, rfl, rfl, rfl, y0⟩ := open_string Tryd.underlying9 (hval 0 9 v0 rfl rfl) h0
  have w0 : a0.size ≤ 140737488351232 := by
    have z := sized_string hsz (j := 0) (t := 9) rfl rfl
    rw [Array.length_toList] at z
    exact z
  obtain ⟨a1, rfl, rfl, rfl, y1⟩ := open_string Tryd.underlying9 (hval 1 9 v1 rfl rfl) h1
  have w1 : a1.size ≤ 140737488351232 := by
    have z := sized_string hsz (j := 1) (t := 9) rfl rfl
    rw [Array.length_toList] at z
    exact z
  clear hA0 hval0 hsz0 hsz
  rw [MakeChecks.laidMetH_plain _ _ _ (by kernel_rfl)] at hL
  have hE : Er W := sentinel_of 0 48 _ (by kernel_rfl) (by kernel_rfl) Tryd.underlying48 (Lib.laidMet.reads hL (.tail _ (.head _)))
  have hN : Nt W := nt_of ((show Rows.laid_unicode_properties = Lib.tabData .u8 Lib.propertiesTab by kernel_rfl) ▸ Lib.laidMet.reads hL (.head _)) ((show Rows.laid_unicode_Letter = Lib.rtabData Lib.letterT by kernel_rfl) ▸ Lib.laidMet.reads hL (.tail _ (.tail _ (.tail _ (.head _))))) ((show Rows.laid_unicode_Digit = Lib.rtabData Lib.digitT by kernel_rfl) ▸ Lib.laidMet.reads hL (.tail _ (.tail _ (.head _))))
  refine (law_wordsVars a0 a1 W w0 w1 hE hN).mono fun e W' ⟨he, hb⟩ => ?_
  subst he
  exact ⟨_, rfl, _, _, _, [], _, [], hW', trodAll_mk1 (shut_bool Tryd.underlying4 _), (trodAll_cons_mk (shut_string Tryd.underlying9 y0) (trodAll_cons_mk (shut_string Tryd.underlying9 y1) (trodAll_mk0))), rfl, hb.frame _, fun h => by cases h⟩
theorem over : Rows.fnWordsVarsRow.holds Tryd.pinned (OpenSpec.ofChange Rows.fnWordsVarsSpec) :=
  OpenClaim.holds_of_wide 8 Tryd.f8 rfl rfl rfl rfl rfl rfl rfl ⟨rfl, rfl, rfl, rfl, rfl⟩ rfl rfl rfl rfl rfl (by kernel_rfl) Tryd.func8 (by kernel_rfl)
    (of_decide_eq_true (by kernel_rfl)) (by unfold Func.isWrapper; first | (rw [if_pos (by decide +kernel)]; kernel_rfl) | (rw [if_neg (by decide +kernel)]; exact ⟨rfl, rfl⟩))
    (fun os started H enc _ => lifted os started H enc)
theorem proved : Rows.FnWordsVarsCardSaid :=
  Claim7.holds_tied_plain_at .later [] [.data, .sentinel, .pinned, .pinned] true (true, "3b29057490af3db26b1dc450b2df14284fb503b4e417020671b7ae01e4853804") false over (fun _ h => by cases h) (by kernel_rfl) (fun _ h => by cases h) fnWordsVars_row_tie rfl ⟨rfl, rfl⟩ (by kernel_rfl) rfl
    (fun f fn hf hfn => by
      obtain rfl : f = 8 := Option.some.inj ((show Tryd.prog.funcNamed "pub-pencraft/laws.FnWordsVars" = some 8 by kernel_rfl).symm.trans hf) |>.symm
      obtain rfl : fn = Tryd.f8 := (Option.some.inj (Tryd.func8.symm.trans hfn)).symm
      exact ⟨by kernel_rfl, fun j t ht => by
        rw [Tryd.params8] at ht
        have hm : t ∈ [9, 9] := by simpa using Array.mem_of_getElem? ht
        have hall : ([9, 9].all fun u => !Tryd.prog.wantsStandIn u) = true := by kernel_rfl
        exact (show Tryd.prog.wantsStandIn t = false by simpa using List.all_eq_true.1 hall t hm)⟩)
    (by kernel_rfl)
#print axioms proved
end Go.Proofs.YthekblmkcfkboaaDoor.fnWordsVars
namespace Go.Proofs.YthekblmkcfkboaaDoor
/-- The card, under a short name, for the claim. -/
theorem fnWordsVars_holds : Rows.FnWordsVarsCardSaid := fnWordsVars.proved
end Go.Proofs.YthekblmkcfkboaaDoor
