/- The law FnEnvOrder holds for every input: its walk (YtmmnljepbnifnaaDoorELaw), the row, and the card, which ties the listed tables of Go's library to the program's text. No condition of our own. -/
import Derived.Test.YtmmnljepbnifnaaDoorELaw
import Derived.Test.YtmmnljepbnifnaaDoorEOpen
import Derived.Test.YtmmnljepbnifnaaDoorEFit
import Derived.Test.YtmmnljepbnifnaaDoorCards
import Derived.Test.YtmmnljepbnifnaaDoorTie
import Derived.WalkKit
import Derived.ProofKit
import Derived.OpenShut
import Derived.ShutString
import Derived.SizedLaws
import Derived.PinnedBridge
import Derived.Lay
import Derived.SevenTiedAt
import Derived.Lib.LaidU8
import Derived.Lib.LaidRTab
import Derived.Lib.LaidCase
namespace Go.Proofs.YtmmnljepbnifnaaDoor.fnEnvOrder
open Go.ChangeShapes Go.WideShapes Go.ChangeAt Go.RowKit Go.Shelf Go.Lib
open Go.ChangeMaps (open_string shut_string)
set_option linter.unusedVariables false
theorem own : ownKnob Tryd.prog.godebug = none := by kernel_rfl
set_option maxRecDepth 100000 in
theorem lifted (os : Os) (started : os.Started) (H : Type) (enc : TypeId × Value → H) :
    ReturnsInHanded {} Tryd.checked os 5 .any (fun w args => (Rows.fnEnvOrderSpec.pre enc Tryd.prog Tryd.f5 [] false w args ∧ laidMetH Tryd.prog Rows.fnEnvOrderRow.laid w) ∧ sizedMet enc Tryd.prog Tryd.f5 (OpenSpec.ofChange Rows.fnEnvOrderSpec) false w args)
      (Rows.fnEnvOrderSpec.post enc Tryd.prog Tryd.f5 false true false false) := by
  refine returnsInHanded_of_change_and (C := Tryd.checked) (X := fun w _ => laidMetH Tryd.prog Rows.fnEnvOrderRow.laid w) (fun _ _ _ hh h => h.of_heap hh) own started (by kernel_rfl) Tryd.func5
    (ChangeSpec.witness_shaped (enc := enc) (C := Tryd.checked) (os := os) (X := fun w _ => laidMetH Tryd.prog Rows.fnEnvOrderRow.laid w) false (World.laidAll Tryd.prog os Rows.fnEnvOrderRow.laid) #[.slice none 0 0, .slice none 0 0] 8 (World.laidAll_os _ _ _)
      (World.shaped_of_ZipB (by kernel_rfl) (by kernel_rfl)) (by kernel_rfl) (by kernel_rfl) (by kernel_rfl)
      (by rw [MakeChecks.laidMetH_plain _ _ _ (by kernel_rfl)]; exact laidMet_laidAll _ (by kernel_rfl) (by kernel_rfl))) ?_
  intro W base args ds gs before hval0 hW _ hsz0 hL _
  have hsz : (DataW.weightsEach Tryd.prog (Tryd.f5.params.toList ++ Rows.fnEnvOrderSpec.plain.varTypes Tryd.prog) (ds ++ gs)).all (· ≤ reachBytes) = true := hsz0
  have hval : ∀ (j : Nat) t v, Tryd.f5.params[j]? = some t → args[j]? = some v → Value.okWide Tryd.prog W .any base t v := hval0
  have hW' := hW
  obtain ⟨p, q, hA0, hV, rfl, _, _⟩ := hW
  have hA : DataW.TrodAll enc Tryd.prog W 0 (fun _ => true) true Tryd.f5.params.toList args.toList ds p := hA0
  rw [Tryd.params5] at hA hval hsz
  obtain ⟨v0, vs0, d0, ds0, p0, q0, hargs, rfl, rfl, h0, r0⟩ := trodAll_cons hA
  obtain ⟨v1, vs1, d1, ds1, p1, q1, rfl, rfl, rfl, h1, r1⟩ := trodAll_cons r0
  obtain ⟨rfl, rfl, rfl⟩ := trodAll_nil r1
  obtain rfl : args = #[v0, v1] := by cases args; simp_all
  obtain ⟨rfl, rfl⟩ := trodVars_none hV
  obtain ⟨s0, n0, c0, rfl⟩ := okWide_slice Tryd.underlying31 (hval 0 31 v0 rfl rfl)
  have k0 := h0
  obtain ⟨fuel0, f0⟩ := h0
  obtain ⟨l0, t0, m0, e0⟩ := open_pairs f0
  obtain ⟨s1, n1, c1, rfl⟩ := okWide_slice Tryd.underlying32 (hval 1 32 v1 rfl rfl)
  have k1 := h1
  obtain ⟨fuel1, f1⟩ := h1
  obtain ⟨l1, t1, m1⟩ := open_bytes f1
  have hlt := hW'.lt
  clear hA0 hval0 hsz0 hsz
  rw [MakeChecks.laidMetH_plain _ _ _ (by kernel_rfl)] at hL
  have hT : Et W := et_of (Lib.laidMet.reads hL (.tail _ (.tail _ (.tail _ (.tail _ (.head _)))))) (Lib.laidMet.reads hL (.tail _ (.tail _ (.tail _ (.head _))))) ((show Rows.laid_internal_strconv_uint64pow10 = Lib.tabData .u64 Lib.pow10Tab by kernel_rfl) ▸ (Lib.laidMet.reads hL (.tail _ (.tail _ (.head _)))))
  refine (law_envOrder l0 (.slice s0 n0 c0) l1 (.slice s1 n1 c1) W t0 m0 e0 t1 m1 hT).mono fun e W' ⟨he, hb⟩ => ?_
  subst he
  exact ⟨_, rfl, _, _, _, [], _, [], hW', trodAll_mk1 (shut_bool Tryd.underlying4 _), (trodAll_cons_mk (Below.trod Tryd.laidOutW (by kernel_rfl) (of_decide_eq_true (by kernel_rfl)) k0 hb (fun x hx => hlt x (by simp [hx]))) (trodAll_cons_mk (Below.trod Tryd.laidOutW (by kernel_rfl) (of_decide_eq_true (by kernel_rfl)) k1 hb (fun x hx => hlt x (by simp [hx]))) (trodAll_mk0))), rfl, hb.frame _, fun h => by cases h⟩
theorem over : Rows.fnEnvOrderRow.holds Tryd.pinned (OpenSpec.ofChange Rows.fnEnvOrderSpec) :=
  OpenClaim.holds_of_wide 5 Tryd.f5 rfl rfl rfl rfl rfl rfl rfl ⟨rfl, rfl, rfl, rfl, rfl⟩ rfl rfl rfl rfl rfl (by kernel_rfl) Tryd.func5 (by kernel_rfl)
    (of_decide_eq_true (by kernel_rfl)) (by unfold Func.isWrapper; first | (rw [if_pos (by decide +kernel)]; kernel_rfl) | (rw [if_neg (by decide +kernel)]; exact ⟨rfl, rfl⟩))
    (fun os started H enc _ => lifted os started H enc)
theorem proved : Rows.FnEnvOrderCardSaid :=
  Claim7.holds_tied_plain_at .later [] [.data, .data, .data, .sentinel, .sentinel] true (true, "4cdbc52c5d696f2b1aeec05f64fb5f6b32b25c27c0753ebb9657337380ba33ee") true over (fun _ h => by cases h) (by kernel_rfl) (fun _ h => by cases h) fnEnvOrder_row_tie rfl ⟨rfl, rfl⟩ (by kernel_rfl) rfl
    (fun f fn hf hfn => by
      obtain rfl : f = 5 := Option.some.inj ((show Tryd.prog.funcNamed "pub-pencraft/laws.FnEnvOrder" = some 5 by kernel_rfl).symm.trans hf) |>.symm
      obtain rfl : fn = Tryd.f5 := (Option.some.inj (Tryd.func5.symm.trans hfn)).symm
      exact ⟨by kernel_rfl, fun j t ht => by
        rw [Tryd.params5] at ht
        have hm : t ∈ [31, 32] := by simpa using Array.mem_of_getElem? ht
        have hall : ([31, 32].all fun u => !Tryd.prog.wantsStandIn u) = true := by kernel_rfl
        exact (show Tryd.prog.wantsStandIn t = false by simpa using List.all_eq_true.1 hall t hm)⟩)
    (by kernel_rfl)
#print axioms proved
end Go.Proofs.YtmmnljepbnifnaaDoor.fnEnvOrder
namespace Go.Proofs.YtmmnljepbnifnaaDoor
/-- The card, under a short name, for the claim. -/
theorem fnEnvOrder_holds : Rows.FnEnvOrderCardSaid := fnEnvOrder.proved
end Go.Proofs.YtmmnljepbnifnaaDoor
