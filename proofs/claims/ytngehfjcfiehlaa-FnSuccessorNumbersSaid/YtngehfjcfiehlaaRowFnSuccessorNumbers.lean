/- The law FnSuccessorNumbers holds for every input: its walk (YtngehfjcfiehlaaSNumLaw), and the row. No condition of our own. -/
import Derived.Test.YtngehfjcfiehlaaSNumLaw
import Derived.Test.YtngehfjcfiehlaaChecked
import Derived.Test.YtngehfjcfiehlaaRows
import Derived.WalkKit
import Derived.ProofKit
import Derived.OpenShut
import Derived.ShutString
import Derived.SizedLaws
import Derived.PinnedBridge
import Derived.Lay
import Derived.SevenTiedAt
import Derived.Lib.LaidU8
import Derived.Lib.LaidRTab
import Derived.Lib.LaidCase
namespace Go.Proofs.Ytngehfjcfiehlaa.fnSuccessorNumbers
open Go.ChangeShapes Go.WideShapes Go.ChangeAt Go.RowKit Go.Shelf Go.Lib
open Go.ChangeMaps (open_string shut_string)
set_option linter.unusedVariables false
theorem own : ownKnob Try.prog.godebug = none := by kernel_rfl
set_option maxRecDepth 100000 in
theorem lifted (os : Os) (started : os.Started) (H : Type) (enc : TypeId × Value → H) :
    ReturnsInHanded {} Try.checked os 4 .any (Rows.fnSuccessorNumbersSpec.pre6 enc Try.prog Try.f4 Rows.fnSuccessorNumbersRow.domain false) (Rows.fnSuccessorNumbersSpec.post enc Try.prog Try.f4 false true false false) := by
  refine returnsInHanded_of_change_sized (C := Try.checked) own started (by kernel_rfl) Try.func4
    (ChangeSpec.witness6 (enc := enc) (C := Try.checked) false ⟨#[], #[.int .u32 0, .int .u8 0], []⟩ 8 (by kernel_rfl) (by kernel_rfl) (by kernel_rfl) (by kernel_rfl)) ?_
  intro W base args ds gs before hval0 hW _ hsz0 _
  have hsz : (DataW.weightsEach Try.prog (Try.f4.params.toList ++ Rows.fnSuccessorNumbersSpec.plain.varTypes Try.prog) (ds ++ gs)).all (· ≤ reachBytes) = true := hsz0
  have hval : ∀ (j : Nat) t v, Try.f4.params[j]? = some t → args[j]? = some v → Value.okWide Try.prog W .any base t v := hval0
  have hW' := hW
  obtain ⟨p, q, hA0, hV, rfl, hfz, hnd⟩ := hW
  have hA : DataW.TrodAll enc Try.prog W 0 (fun _ => true) true Try.f4.params.toList args.toList ds p := hA0
  rw [Try.params4] at hA hval hsz
  obtain ⟨v0, vs0, d0, ds0, p0, q0, hargs, rfl, rfl, h0, r0⟩ := trodAll_cons hA
  obtain ⟨v1, vs1, d1, ds1, p1, q1, rfl, rfl, rfl, h1, r1⟩ := trodAll_cons r0
  obtain ⟨rfl, rfl, rfl⟩ := trodAll_nil r1
  obtain rfl : args = #[v0, v1] := by cases args; simp_all
  obtain ⟨rfl, rfl⟩ := trodVars_none hV
  obtain ⟨a0, rfl, rfl, rfl, y0⟩ := open_int Try.underlying26 (hval 0 26 v0 rfl rfl) h0
  have w0 : 0 ≤ a0 ∧ a0 ≤ 4294967295 := by simpa [Lit.wf, IntKind.min, IntKind.max, IntKind.signed, IntKind.bits] using y0
  obtain ⟨a1, rfl, rfl, rfl, y1⟩ := open_int Try.underlying5 (hval 1 5 v1 rfl rfl) h1
  have w1 : 0 ≤ a1 ∧ a1 ≤ 255 := by simpa [Lit.wf, IntKind.min, IntKind.max, IntKind.signed, IntKind.bits] using y1
  clear hA0 hval0 hsz0 hsz

  refine (law_numbers a0 a1 W w0.1 w0.2 w1.1 w1.2 ).mono fun e W' ⟨he, hb⟩ => ?_
  subst he
  exact ⟨_, rfl, _, _, _, [], _, [], hW', trodAll_mk1 (shut_bool Try.underlying4 _), (trodAll_cons_mk (shut_int Try.underlying26 y0) (trodAll_cons_mk (shut_int Try.underlying5 y1) (trodAll_mk0))), rfl, hb.frame _, fun h => by cases h⟩
theorem over : Rows.fnSuccessorNumbersRow.holds Try.pinned (OpenSpec.ofChange Rows.fnSuccessorNumbersSpec) :=
  OpenClaim.holds_of_wide 4 Try.f4 rfl rfl rfl rfl rfl rfl rfl ⟨rfl, rfl, rfl, rfl, rfl⟩ rfl rfl rfl rfl rfl (by kernel_rfl) Try.func4 (by kernel_rfl)
    (of_decide_eq_true (by kernel_rfl)) (by unfold Func.isWrapper; first | (rw [if_pos (by decide +kernel)]; kernel_rfl) | (rw [if_neg (by decide +kernel)]; exact ⟨rfl, rfl⟩))
    (fun os started H enc _ => lifted os started H enc)
theorem proved : Rows.FnSuccessorNumbersSaid := over
#print axioms proved
end Go.Proofs.Ytngehfjcfiehlaa.fnSuccessorNumbers
namespace Go.Proofs.Ytngehfjcfiehlaa
/-- The row, under a short name, for the claim. -/
theorem fnSuccessorNumbers_holds : Rows.FnSuccessorNumbersSaid := fnSuccessorNumbers.proved
end Go.Proofs.Ytngehfjcfiehlaa
