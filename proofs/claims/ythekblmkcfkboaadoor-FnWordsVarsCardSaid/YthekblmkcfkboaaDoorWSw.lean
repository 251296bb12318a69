/- Parse, one round: ahead of its switch and behind it. -/
import Derived.Test.YthekblmkcfkboaaDoorWFrame
namespace Go.Proofs.YthekblmkcfkboaaDoor
open Go.RowKit U8
open Go.Lib hiding intOf

/-- What holds ahead of the switch. -/
structure Sw (w : World) (l : List UInt8) (pp A0 B0 G0 T0 S0 I0 : Nat) (cmt : Bool) (ex : List Nat) (R : Option (List (List UInt8) × Int)) (us : List Value) (args : List (List UInt8)) (buf : List UInt8) (got : Nat) (tq dq sq bq dl ad : Bool) (i : Int) (p a rest bt : List UInt8) (r : Nat) (vb vk : Value) (wi : World) : Prop where
  fr : Fr l pp A0 B0 G0 T0 S0 I0 us ⟨args, buf, got, tq, false, dq, sq, bq, dl, false, false, i + 1⟩ vk (-1)
  s25 : slotV us 25 = .int .i32 r
  s26 : slotV us 26 = .bool ad
  s140 : slotV us 140 = .int .i32 r
  e : l = (p ++ a) ++ rest
  al : 0 < a.length
  gots : got ≤ 2
  argss : args.length ≤ p.length
  bufs : buf.length ≤ 8 * p.length
  bts : bt.length ≤ 8 * p.length
  i0 : -1 ≤ i
  i1 : i + 1 ≤ p.length
  sc : Sc r
  sw : R = match switchS cmt ad ⟨args, buf, got, tq, false, dq, sq, bq, dl, false, false, i + 1⟩ r with | .err => none | .stop s' => finS s' s'.i | .go s' => runS cmt ex s' (rns rest)
  pw : PW w A0 B0 G0 T0 S0 I0 (txt l) (p ++ a).length vb vk args buf bt got tq wi
/-- Behind it: the rune means nothing. -/
def MInv (w : World) (l : List UInt8) (pp A0 B0 G0 T0 S0 I0 : Nat) (cmt : Bool) (ex : List Nat) (R : Option (List (List UInt8) × Int)) (args : List (List UInt8)) (buf : List UInt8) (got : Nat) (tq dq sq dl : Bool) (i : Int) (p a rest bt : List UInt8) (r : Nat) (vb : Value) (a' : Act) (wr : World) : Prop :=
  ∃ us bq' bt' vk', a' = ⟨us.toArray, []⟩ ∧ Fr l pp A0 B0 G0 T0 S0 I0 us ⟨args, buf, got, tq, false, dq, sq, bq', dl, false, false, i + 1⟩ vk' (-1) ∧ slotV us 25 = .int .i32 r ∧ bt'.length ≤ bt.length ∧
    R = runS cmt ex (Sx.put ⟨args, buf, got, tq, false, dq, sq, bq', dl, false, false, i + 1⟩ r) (rns rest) ∧ PW w A0 B0 G0 T0 S0 I0 (txt l) (p ++ a).length vb vk' args buf bt' got tq wr

end Go.Proofs.YthekblmkcfkboaaDoor
