/- The law FnPropsWithout holds for every input: its walk (YtmmnljepbnifnaaDoorGLawW), the row, and the card, which ties the listed tables of Go's library to the program's text. No condition of our own. -/
import Derived.Test.YtmmnljepbnifnaaDoorGLawW
import Derived.Test.YtmmnljepbnifnaaDoorGWt
import Derived.Test.YtmmnljepbnifnaaDoorCards
import Derived.Test.YtmmnljepbnifnaaDoorTie
import Derived.WalkKit
import Derived.ProofKit
import Derived.OpenShut
import Derived.ShutString
import Derived.SizedLaws
import Derived.PinnedBridge
import Derived.Lay
import Derived.SevenTiedAt
import Derived.Lib.LaidU8
import Derived.Lib.LaidRTab
import Derived.Lib.LaidCase
namespace Go.Proofs.YtmmnljepbnifnaaDoor.fnPropsWithout
open Go.ChangeShapes Go.WideShapes Go.ChangeAt Go.RowKit Go.Shelf Go.Lib
open Go.ChangeMaps (open_string shut_string)
set_option linter.unusedVariables false
theorem own : ownKnob Tryd.prog.godebug = none := by kernel_rfl
set_option maxRecDepth 100000 in
theorem lifted (os : Os) (started : os.Started) (H : Type) (enc : TypeId × Value → H) :
    ReturnsInHanded {} Tryd.checked os 4 .any (fun w args => (Rows.fnPropsWithoutSpec.pre enc Tryd.prog Tryd.f4 [] false w args ∧ laidMetH Tryd.prog Rows.fnPropsWithoutRow.laid w) ∧ sizedMet enc Tryd.prog Tryd.f4 (OpenSpec.ofChange Rows.fnPropsWithoutSpec) false w args)
      (Rows.fnPropsWithoutSpec.post enc Tryd.prog Tryd.f4 false true false false) := by
  refine returnsInHanded_of_change_and (C := Tryd.checked) (X := fun w _ => laidMetH Tryd.prog Rows.fnPropsWithoutRow.laid w) (fun _ _ _ hh h => h.of_heap hh) own started (by kernel_rfl) Tryd.func4
    (ChangeSpec.witness_shaped (enc := enc) (C := Tryd.checked) (os := os) (X := fun w _ => laidMetH Tryd.prog Rows.fnPropsWithoutRow.laid w) false (World.laidAll Tryd.prog os Rows.fnPropsWithoutRow.laid) #[.slice none 0 0] 8 (World.laidAll_os _ _ _)
      (World.shaped_of_ZipB (by kernel_rfl) (by kernel_rfl)) (by kernel_rfl) (by kernel_rfl) (by kernel_rfl)
      (by rw [MakeChecks.laidMetH_plain _ _ _ (by kernel_rfl)]; exact laidMet_laidAll _ (by kernel_rfl) (by kernel_rfl))) ?_
  intro W base args ds gs before hval0 hW _ hsz0 hL _
  have hsz : (DataW.weightsEach Tryd.prog (Tryd.f4.params.toList ++ Rows.fnPropsWithoutSpec.plain.varTypes Tryd.prog) (ds ++ gs)).all (· ≤ reachBytes) = true := hsz0
  have hval : ∀ (j : Nat) t v, Tryd.f4.params[j]? = some t → args[j]? = some v → Value.okWide Tryd.prog W .any base t v := hval0
  have hW' := hW
  obtain ⟨p, q, hA0, hV, rfl, _, _⟩ := hW
  have hA : DataW.TrodAll enc Tryd.prog W 0 (fun _ => true) true Tryd.f4.params.toList args.toList ds p := hA0
  rw [Tryd.params4] at hA hval hsz
  obtain ⟨v0, d0, rfl, rfl, h0⟩ := trodAll_one hA
  obtain ⟨rfl, rfl⟩ := trodVars_none hV
  obtain ⟨s0, n0, c0, rfl⟩ := okWide_slice Tryd.underlying22 (hval 0 22 v0 rfl rfl)
  have k0 := h0
  obtain ⟨fuel0, f0⟩ := h0
  obtain ⟨l0, t0, m0, e0⟩ := open_props f0
  have hlt := hW'.lt
  clear hA0 hval0 hsz0 hsz
  rw [MakeChecks.laidMetH_plain _ _ _ (by kernel_rfl)] at hL
  have hT : Wt W := wt_of (Pinned.utf8First_eq ▸ (Lib.laidMet.reads hL (.tail _ (.tail _ (.head _))))) ((show Rows.laid_unicode_utf8_acceptRanges = Lib.acceptData by kernel_rfl) ▸ (Lib.laidMet.reads hL (.head _))) ((show Rows.laid_unicode_White_Space = Lib.whiteData by kernel_rfl) ▸ (Lib.laidMet.reads hL (.tail _ (.head _))))
  refine (law_propsWithout l0 (.slice s0 n0 c0) W t0 m0 e0 hT).mono fun e W' ⟨he, hb⟩ => ?_
  subst he
  exact ⟨_, rfl, _, _, _, [], _, [], hW', trodAll_mk1 (shut_bool Tryd.underlying4 _), (trodAll_mk1 (Below.trod Tryd.laidOutW (by kernel_rfl) (of_decide_eq_true (by kernel_rfl)) k0 hb (fun x hx => hlt x (by simp [hx])))), rfl, hb.frame _, fun h => by cases h⟩
theorem over : Rows.fnPropsWithoutRow.holds Tryd.pinned (OpenSpec.ofChange Rows.fnPropsWithoutSpec) :=
  OpenClaim.holds_of_wide 4 Tryd.f4 rfl rfl rfl rfl rfl rfl rfl ⟨rfl, rfl, rfl, rfl, rfl⟩ rfl rfl rfl rfl rfl (by kernel_rfl) Tryd.func4 (by kernel_rfl)
    (of_decide_eq_true (by kernel_rfl)) (by unfold Func.isWrapper; first | (rw [if_pos (by decide +kernel)]; kernel_rfl) | (rw [if_neg (by decide +kernel)]; exact ⟨rfl, rfl⟩))
    (fun os started H enc _ => lifted os started H enc)
theorem proved : Rows.FnPropsWithoutCardSaid :=
  Claim7.holds_tied_plain_at .later [] [.data, .listed, .pinned] true (true, "4cdbc52c5d696f2b1aeec05f64fb5f6b32b25c27c0753ebb9657337380ba33ee") true over (fun _ h => by cases h) (by kernel_rfl) (fun _ h => by cases h) fnPropsWithout_row_tie rfl ⟨rfl, rfl⟩ (by kernel_rfl) rfl
    (fun f fn hf hfn => by
      obtain rfl : f = 4 := Option.some.inj ((show Tryd.prog.funcNamed "pub-pencraft/laws.FnPropsWithout" = some 4 by kernel_rfl).symm.trans hf) |>.symm
      obtain rfl : fn = Tryd.f4 := (Option.some.inj (Tryd.func4.symm.trans hfn)).symm
      exact ⟨by kernel_rfl, fun j t ht => by
        rw [Tryd.params4] at ht
        have hm : t ∈ [22] := by simpa using Array.mem_of_getElem? ht
        have hall : ([22].all fun u => !Tryd.prog.wantsStandIn u) = true := by kernel_rfl
        exact (show Tryd.prog.wantsStandIn t = false by simpa using List.all_eq_true.1 hall t hm)⟩)
    (by kernel_rfl)
#print axioms proved
end Go.Proofs.YtmmnljepbnifnaaDoor.fnPropsWithout
namespace Go.Proofs.YtmmnljepbnifnaaDoor
/-- The card, under a short name, for the claim. -/
theorem fnPropsWithout_holds : Rows.FnPropsWithoutCardSaid := fnPropsWithout.proved
end Go.Proofs.YtmmnljepbnifnaaDoor
