/- Parse, one round: any rune. -/
import Derived.Test.YthekblmkcfkboaaDoorWACm
import Derived.Test.YthekblmkcfkboaaDoorWAEq
import Derived.Test.YthekblmkcfkboaaDoorWAEs
import Derived.Test.YthekblmkcfkboaaDoorWABs
import Derived.Test.YthekblmkcfkboaaDoorWAEx
import Derived.Test.YthekblmkcfkboaaDoorWASq
import Derived.Test.YthekblmkcfkboaaDoorWASp
import Derived.Test.YthekblmkcfkboaaDoorWANil
import Derived.Test.YthekblmkcfkboaaDoorWASw
import Derived.Test.YthekblmkcfkboaaDoorPcs
namespace Go.Proofs.YthekblmkcfkboaaDoor
open Go.RowKit U8
open Go.Lib hiding intOf

theorem round_any {c : Code} (hc : Tryd.f26.body.bind loopOf = some c) {w : World} {l : List UInt8} {pp A0 B0 G0 T0 S0 I0 : Nat} {cmt : Bool} {ex : List Nat} {R : Option (List (List UInt8) × Int)} {ev : Value} (X : Cs w l pp A0 B0 G0 T0 S0 cmt ex ev)
  {us : List Value} {s : Sx} {p rest bt : List UInt8} {vb vk : Value} {wr : World} (H : Rd w l pp A0 B0 G0 T0 S0 I0 cmt ex R us s p rest bt vb vk wr) {gk : Nat} (hg : rest.length < gk) {K : Act → World → Prop} {Q : Exit → Act → World → Prop}
  (hK : ∀ a' w', Handed (RInv w l pp A0 B0 G0 T0 S0 I0 cmt ex R) gk a' w' → K a' w') (hB : ∀ a' w', BInv w l pp A0 B0 G0 T0 S0 I0 R a' w' → Q (.exit 0) a' w') (hE : ∀ a' w', EInv w ev R a' w' → Q .ret a' w') :
  c.wp Tryd.prog (Exit.then K Q) ⟨us.toArray, []⟩ wr := by
  obtain ⟨args, buf, got, tq, esc, dq, sq, bq, dl, cm, ad, i⟩ := s
  by_cases hne : rest = []
  · subst hne
    exact arm_nil hc X H hB
  obtain ⟨a, rest, r, rfl, ha, hd, hsc, _⟩ := first_part rest hne
  cases cm with
  | true => exact arm_cm hc X H ha hd hsc hg hK
  | false =>
    cases esc with
    | true =>
      cases hb : (bq || dl) with
      | true => exact arm_escq hc X H ha hd hsc hb hg hK
      | false =>
        have h2 : bq = false ∧ dl = false := by cases bq <;> cases dl <;> simp_all
        obtain ⟨rfl, rfl⟩ := h2
        exact arm_esc hc X H ha hd hsc hg hK
    | false =>
      by_cases h92 : r = 92
      · exact arm_bs hc X H ha hd hsc h92 hg hK
      cases hX : ex.any (· == r) with
      | true => exact arm_ex hc X H ha hd hsc h92 hX hg hK
      | false =>
        cases hS : isSp r with
        | true =>
          cases hq : (((sq || dq) || bq) || dl) with
          | true => exact arm_spq hc X H ha hd hsc h92 hX hS hq hg hK
          | false =>
            have hq4 : sq = false ∧ dq = false ∧ bq = false ∧ dl = false := by cases sq <;> cases dq <;> cases bq <;> cases dl <;> simp_all
            obtain ⟨rfl, rfl, rfl, rfl⟩ := hq4
            exact arm_sp hc X H ha hd hsc h92 hX hS hg hK
        | false => exact arm_sw hc X H ha hd hsc h92 hX hS hg hK hB hE

end Go.Proofs.YthekblmkcfkboaaDoor
