/- A line of words as the package reads it, without variables: a plain machine, rune by rune. No program is in sight. -/
import Derived.Test.YthekblmkcfkboaaDoorWBase
namespace Go.Proofs.YthekblmkcfkboaaDoor
open Go.Lib U8

/-- What is known between two runes. got: 0 no word, 1 one, 2 a quoted one. -/
structure Sx where
  args : List (List UInt8)
  buf : List UInt8
  got : Nat
  tq : Bool
  esc : Bool
  dq : Bool
  sq : Bool
  bq : Bool
  dl : Bool
  cm : Bool
  ad : Bool
  i : Int
def Sx.start : Sx := ⟨[], [], 0, false, false, false, false, false, false, false, false, -1⟩
def Sx.word (s : Sx) : Bool := s.got == 2 || (s.got != 0 && !s.buf.isEmpty)
def Sx.flush (s : Sx) : Sx := { s with args := if s.word then s.args ++ [s.buf] else s.args, buf := [], got := 0, tq := false }
def isSp (r : Nat) : Bool := r == 32 || r == 9 || r == 13 || r == 10
def digs (l : List UInt8) : Bool := l.all fun b => decide (48 ≤ b.toNat ∧ b.toNat ≤ 57)
inductive Out where
  | go (s : Sx)
  | stop (s : Sx)
  | err
/-- A rune that means nothing. -/
def Sx.put (s : Sx) (r : Nat) : Sx := { s with got := 1, buf := s.buf ++ enc1 r, ad := r == 36 && !(s.sq || s.dq || s.bq || s.dl) }
def Sx.quoted (s : Sx) : Bool := s.sq || s.dq || s.bq || s.dl
/-- The runes of the switch. -/
def switchS (cmt : Bool) (pd : Bool) (s : Sx) (r : Nat) : Out :=
  if r = 96 then (if !s.sq && !s.dq && !s.dl then .go (Sx.put { s with bq := !s.bq } r) else .go (s.put r))
  else if r = 41 then (if !s.sq && !s.dq && !s.bq then (if s.dl then .go { s with buf := s.buf ++ [41], dl := false, got := 1 } else .err) else .go (s.put r))
  else if r = 40 then (if !s.sq && !s.dq && !s.bq then (if !s.dl && pd then .go { s with dl := true, buf := s.buf ++ [40] } else .err) else .go (s.put r))
  else if r = 34 then (if !s.sq && !s.dl && !s.bq then .go { s with got := if s.dq then 2 else s.got, dq := !s.dq, tq := true } else .go (s.put r))
  else if r = 39 then (if !s.dq && !s.dl && !s.bq then .go { s with got := if s.sq then 2 else s.got, sq := !s.sq, tq := true } else .go (s.put r))
  else if r = 59 ∨ r = 38 ∨ r = 124 ∨ r = 60 ∨ r = 62 then
    (if s.quoted then .go (s.put r)
     else if r = 62 ∧ s.buf ≠ [] ∧ s.tq = false ∧ digs s.buf = true then .stop { s with i := s.i - s.buf.length, got := 0 } else .stop s)
  else if r = 35 then (if cmt && s.got == 0 && !s.quoted then .go { s with cm := true } else .go (s.put r))
  else .go (s.put r)
/-- One rune. -/
def stepS (cmt : Bool) (ex : List Nat) (s0 : Sx) (r : Nat) : Out :=
  let s := { s0 with i := s0.i + 1, ad := false }
  if s.cm then (if r = 10 then .go { s with cm := false, tq := false } else .go s)
  else if s.esc then
    (if s.bq || s.dl then .go { s with esc := false, tq := true, buf := s.buf ++ [92] ++ enc1 r, got := 1 }
     else .go { s with esc := false, tq := true, buf := s.buf ++ enc1 (if r = 116 then 9 else if r = 110 then 10 else r), got := 1 })
  else if r = 92 then (if s.sq then .go { s with buf := s.buf ++ [92] } else .go { s with esc := true })
  else if ex.any (· == r) then .go { s with got := 1, buf := s.buf ++ enc1 r }
  else if isSp r then (if s.quoted then .go { s with buf := s.buf ++ [r.toUInt8] } else .go s.flush)
  else switchS cmt s0.ad s r
def finS (s : Sx) (pos : Int) : Option (List (List UInt8) × Int) :=
  if s.esc || s.quoted then none else some (s.flush.args, pos)
def runS (cmt : Bool) (ex : List Nat) : Sx → List Nat → Option (List (List UInt8) × Int)
  | s, [] => finS s (-1)
  | s, r :: l => match stepS cmt ex s r with
    | .err => none
    | .stop s' => finS s' s'.i
    | .go s' => runS cmt ex s' l

end Go.Proofs.YthekblmkcfkboaaDoor
