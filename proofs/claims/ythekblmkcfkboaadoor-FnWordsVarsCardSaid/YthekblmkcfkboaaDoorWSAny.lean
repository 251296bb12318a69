/- Parse, one round: the switch at any rune. -/
import Derived.Test.YthekblmkcfkboaaDoorWSA
import Derived.Test.YthekblmkcfkboaaDoorWSB
import Derived.Test.YthekblmkcfkboaaDoorWSC
namespace Go.Proofs.YthekblmkcfkboaaDoor
open Go.RowKit U8
open Go.Lib hiding intOf

theorem sw_any {c : Code} (hc : Tryd.f26.body.bind (blkOf 2) = some c) {w : World} {l : List UInt8} {pp A0 B0 G0 T0 S0 I0 : Nat} {cmt : Bool} {ex : List Nat} {R : Option (List (List UInt8) × Int)} {ev : Value} (X : Cs w l pp A0 B0 G0 T0 S0 cmt ex ev)
  {us : List Value} {args : List (List UInt8)} {buf : List UInt8} {got : Nat} {tq dq sq bq dl ad : Bool} {i : Int} {p a rest bt : List UInt8} {r : Nat} {vb vk : Value} {wi : World}
  (H : Sw w l pp A0 B0 G0 T0 S0 I0 cmt ex R us args buf got tq dq sq bq dl ad i p a rest bt r vb vk wi)
   {gk0 : Nat} (hg : a.length + rest.length < gk0) {K : Act → World → Prop} {Q : Exit → Act → World → Prop}
  (hM : ∀ a' w', MInv w l pp A0 B0 G0 T0 S0 I0 cmt ex R args buf got tq dq sq dl i p a rest bt r vb a' w' → K a' w')
  (hK : ∀ a' w', Handed (RInv w l pp A0 B0 G0 T0 S0 I0 cmt ex R) gk0 a' w' → Q (.exit 1) a' w') (hB : ∀ a' w', BInv w l pp A0 B0 G0 T0 S0 I0 R a' w' → Q (.exit 0) a' w') (hE : ∀ a' w', EInv w ev R a' w' → Q .ret a' w') :
  c.wp Tryd.prog (Exit.then K Q) ⟨us.toArray, []⟩ wi := by
  by_cases h96 : r = 96
  · exact sw_96 hc X H h96 hg hM hK hB hE
  by_cases h41 : r = 41
  · exact sw_41 hc X H h41 hg hM hK hB hE
  by_cases h40 : r = 40
  · exact sw_40 hc X H h40 hg hM hK hB hE
  by_cases h34 : r = 34
  · exact sw_34 hc X H h34 hg hM hK hB hE
  by_cases h39 : r = 39
  · exact sw_39 hc X H h39 hg hM hK hB hE
  by_cases h36 : r = 36
  · exact sw_36 hc X H h36 hg hM hK hB hE
  by_cases h35 : r = 35
  · exact sw_35 hc X H h35 hg hM hK hB hE
  by_cases hs : r = 59 ∨ r = 38 ∨ r = 124 ∨ r = 60 ∨ r = 62
  · cases hq : (((sq || dq) || bq) || dl) with
    | true => exact sw_sepq hc X H hs hq hg hM hK hB hE
    | false =>
      have hq4 : sq = false ∧ dq = false ∧ bq = false ∧ dl = false := by cases sq <;> cases dq <;> cases bq <;> cases dl <;> simp_all
      by_cases h62 : r = 62
      · exact sw_62 hc X H h62 hq4 hg hM hK hB hE
      · exact sw_sep hc X H (by omega) hq4 hg hM hK hB hE
  · exact sw_def hc X H (by omega) (by omega) (by omega) (by omega) (by omega) (by omega) (by omega) (by omega) (by omega) (by omega) (by omega) (by omega) hg hM hK hB hE

end Go.Proofs.YthekblmkcfkboaaDoor
