/- The law FnAnyKind holds for every input: its walk (YthanbbflemkomaaDoorKLaw), the row, and the card, which ties the listed tables of Go's library to the program's text. No condition of our own. -/
import Derived.Test.YthanbbflemkomaaDoorKLaw
import Derived.Test.YthanbbflemkomaaDoorCSpc
import Derived.Test.YthanbbflemkomaaDoorCards
import Derived.Test.YthanbbflemkomaaDoorTie
import Derived.WalkKit
import Derived.ProofKit
import Derived.OpenShut
import Derived.ShutString
import Derived.SizedLaws
import Derived.PinnedBridge
import Derived.Lay
import Derived.SevenTiedAt
import Derived.Lib.LaidU8
import Derived.Lib.LaidRTab
import Derived.Lib.LaidCase
namespace Go.Proofs.YthanbbflemkomaaDoor.fnAnyKind
open Go.ChangeShapes Go.WideShapes Go.ChangeAt Go.RowKit Go.Shelf Go.Lib
open Go.ChangeMaps (open_string shut_string)
set_option linter.unusedVariables false
theorem own : ownKnob Tryd.prog.godebug = none := by kernel_rfl
set_option maxRecDepth 100000 in
theorem lifted (os : Os) (started : os.Started) (H : Type) (enc : TypeId × Value → H) :
    ReturnsInHanded {} Tryd.checked os 3 .any (fun w args => (Rows.fnAnyKindSpec.pre enc Tryd.prog Tryd.f3 [] false w args ∧ laidMetH Tryd.prog Rows.fnAnyKindRow.laid w) ∧ sizedMet enc Tryd.prog Tryd.f3 (OpenSpec.ofChange Rows.fnAnyKindSpec) false w args)
      (Rows.fnAnyKindSpec.post enc Tryd.prog Tryd.f3 false true false false) := by
  refine returnsInHanded_of_change_and (C := Tryd.checked) (X := fun w _ => laidMetH Tryd.prog Rows.fnAnyKindRow.laid w) (fun _ _ _ hh h => h.of_heap hh) own started (by kernel_rfl) Tryd.func3
    (ChangeSpec.witness_shaped (enc := enc) (C := Tryd.checked) (os := os) (X := fun w _ => laidMetH Tryd.prog Rows.fnAnyKindRow.laid w) false (World.laidAll Tryd.prog os Rows.fnAnyKindRow.laid) #[.slice none 0 0, .int .u8 0] 8 (World.laidAll_os _ _ _)
      (World.shaped_of_ZipB (by kernel_rfl) (by kernel_rfl)) (by kernel_rfl) (by kernel_rfl) (by kernel_rfl)
      (by rw [MakeChecks.laidMetH_plain _ _ _ (by kernel_rfl)]; exact laidMet_laidAll _ (by kernel_rfl) (by kernel_rfl))) ?_
  intro W base args ds gs before hval0 hW _ hsz0 hL _
  have hsz : (DataW.weightsEach Tryd.prog (Tryd.f3.params.toList ++ Rows.fnAnyKindSpec.plain.varTypes Tryd.prog) (ds ++ gs)).all (· ≤ reachBytes) = true := hsz0
  have hval : ∀ (j : Nat) t v, Tryd.f3.params[j]? = some t → args[j]? = some v → Value.okWide Tryd.prog W .any base t v := hval0
  have hW' := hW
  obtain ⟨p, q, hA0, hV, rfl, _, _⟩ := hW
  have hA : DataW.TrodAll enc Tryd.prog W 0 (fun _ => true) true Tryd.f3.params.toList args.toList ds p := hA0
  rw [Tryd.params3] at hA hval hsz
  obtain ⟨v0, vs0, d0, ds0, p0, q0, hargs, rfl, rfl, h0, r0⟩ := trodAll_cons hA
  obtain ⟨v1, vs1, d1, ds1, p1, q1, rfl, rfl, rfl, h1, r1⟩ := trodAll_cons r0
  obtain ⟨rfl, rfl, rfl⟩ := trodAll_nil r1
  obtain rfl : args = #[v0, v1] := by cases args; simp_all
  obtain ⟨rfl, rfl⟩ := trodVars_none hV
  obtain ⟨s0, n0, c0, rfl⟩ := okWide_slice Tryd.underlying22 (hval 0 22 v0 rfl rfl)
  have k0 := h0
  obtain ⟨fuel0, f0⟩ := h0
  obtain ⟨l0, t0, m0, e0⟩ := open_texts f0
  obtain ⟨a1, rfl, rfl, rfl, y1⟩ := open_int Tryd.underlying5 (hval 1 5 v1 rfl rfl) h1
  have w1 : 0 ≤ a1 ∧ a1 ≤ 255 := by simpa [Lit.wf, IntKind.min, IntKind.max, IntKind.signed, IntKind.bits] using y1
  have hlt := hW'.lt
  clear hA0 hval0 hsz0 hsz
  rw [MakeChecks.laidMetH_plain _ _ _ (by kernel_rfl)] at hL
  have hS : Spc W := spc_of ((show Rows.laid_strings_asciiSpace = Lib.tabData .u8 Lib.asciiSpaceTab by kernel_rfl) ▸ (Lib.laidMet.reads hL (.tail _ (.tail _ (.head _))))) (Pinned.utf8First_eq ▸ (Lib.laidMet.reads hL (.tail _ (.tail _ (.tail _ (.head _)))))) ((show Rows.laid_unicode_utf8_acceptRanges = Lib.acceptData by kernel_rfl) ▸ (Lib.laidMet.reads hL (.head _))) ((show Rows.laid_unicode_White_Space = Lib.whiteData by kernel_rfl) ▸ (Lib.laidMet.reads hL (.tail _ (.head _))))
  refine (law_anyKind l0 (.slice s0 n0 c0) a1 W t0 m0 e0 w1.1 w1.2 hS).mono fun e W' ⟨he, hb⟩ => ?_
  subst he
  exact ⟨_, rfl, _, _, _, [], _, [], hW', trodAll_mk1 (shut_bool Tryd.underlying4 _), (trodAll_cons_mk (Below.trod Tryd.laidOutW (by kernel_rfl) (of_decide_eq_true (by kernel_rfl)) k0 hb (fun x hx => hlt x (by simp [hx]))) (trodAll_cons_mk (shut_int Tryd.underlying5 y1) (trodAll_mk0))), rfl, hb.frame _, fun h => by cases h⟩
theorem over : Rows.fnAnyKindRow.holds Tryd.pinned (OpenSpec.ofChange Rows.fnAnyKindSpec) :=
  OpenClaim.holds_of_wide 3 Tryd.f3 rfl rfl rfl rfl rfl rfl rfl ⟨rfl, rfl, rfl, rfl, rfl⟩ rfl rfl rfl rfl rfl (by kernel_rfl) Tryd.func3 (by kernel_rfl)
    (of_decide_eq_true (by kernel_rfl)) (by unfold Func.isWrapper; first | (rw [if_pos (by decide +kernel)]; kernel_rfl) | (rw [if_neg (by decide +kernel)]; exact ⟨rfl, rfl⟩))
    (fun os started H enc _ => lifted os started H enc)
theorem proved : Rows.FnAnyKindCardSaid :=
  Claim7.holds_tied_plain_at .later [] [.data, .listed, .data, .pinned] true (true, "2d034a4888d6dd8c70452f338812fecee6f14188e6ae65ce2da00f4c9c5e7606") false over (fun _ h => by cases h) (by kernel_rfl) (fun _ h => by cases h) fnAnyKind_row_tie rfl ⟨rfl, rfl⟩ (by kernel_rfl) rfl
    (fun f fn hf hfn => by
      obtain rfl : f = 3 := Option.some.inj ((show Tryd.prog.funcNamed "pub-pencraft/laws.FnAnyKind" = some 3 by kernel_rfl).symm.trans hf) |>.symm
      obtain rfl : fn = Tryd.f3 := (Option.some.inj (Tryd.func3.symm.trans hfn)).symm
      exact ⟨by kernel_rfl, fun j t ht => by
        rw [Tryd.params3] at ht
        have hm : t ∈ [22, 5] := by simpa using Array.mem_of_getElem? ht
        have hall : ([22, 5].all fun u => !Tryd.prog.wantsStandIn u) = true := by kernel_rfl
        exact (show Tryd.prog.wantsStandIn t = false by simpa using List.all_eq_true.1 hall t hm)⟩)
    (by kernel_rfl)
#print axioms proved
end Go.Proofs.YthanbbflemkomaaDoor.fnAnyKind
namespace Go.Proofs.YthanbbflemkomaaDoor
/-- The card, under a short name, for the claim. -/
theorem fnAnyKind_holds : Rows.FnAnyKindCardSaid := fnAnyKind.proved
end Go.Proofs.YthanbbflemkomaaDoor
