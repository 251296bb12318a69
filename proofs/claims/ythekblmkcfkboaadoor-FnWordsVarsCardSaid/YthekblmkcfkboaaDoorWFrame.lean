/- Parse's frame as a list of its slots; the codes of its round and of its switch; what holds between two rounds. -/
import Derived.Test.YthekblmkcfkboaaDoorWStep
import Derived.WalkMore
import Derived.Deep.DeepCutAuto
namespace Go.Proofs.YthekblmkcfkboaaDoor
open Go.RowKit U8
open Go.Lib hiding intOf

def slotV (us : List Value) (k : Nat) : Value := us.getD k .nilIface
theorem lit_range (us : List Value) (n : Nat) (h : us.length = n) : us = (List.range n).map (slotV us) := by
  subst h
  refine List.ext_getElem (by simp) (fun i h1 h2 => ?_)
  simp [slotV, List.getD, List.getElem?_eq_getElem h1]
set_option maxRecDepth 100000 in
theorem lit_all (us : List Value) (h : us.length = 419) : us.toArray = [slotV us 0, slotV us 1, slotV us 2, slotV us 3, slotV us 4, slotV us 5, slotV us 6, slotV us 7, slotV us 8, slotV us 9, slotV us 10, slotV us 11, slotV us 12, slotV us 13, slotV us 14, slotV us 15, slotV us 16, slotV us 17, slotV us 18, slotV us 19, slotV us 20, slotV us 21, slotV us 22, slotV us 23, slotV us 24, slotV us 25, slotV us 26, slotV us 27, slotV us 28, slotV us 29, slotV us 30, slotV us 31, slotV us 32, slotV us 33, slotV us 34, slotV us 35, slotV us 36, slotV us 37, slotV us 38, slotV us 39, slotV us 40, slotV us 41, slotV us 42, slotV us 43, slotV us 44, slotV us 45, slotV us 46, slotV us 47, slotV us 48, slotV us 49, slotV us 50, slotV us 51, slotV us 52, slotV us 53, slotV us 54, slotV us 55, slotV us 56, slotV us 57, slotV us 58, slotV us 59, slotV us 60, slotV us 61, slotV us 62, slotV us 63, slotV us 64, slotV us 65, slotV us 66, slotV us 67, slotV us 68, slotV us 69, slotV us 70, slotV us 71, slotV us 72, slotV us 73, slotV us 74, slotV us 75, slotV us 76, slotV us 77, slotV us 78, slotV us 79, slotV us 80, slotV us 81, slotV us 82, slotV us 83, slotV us 84, slotV us 85, slotV us 86, slotV us 87, slotV us 88, slotV us 89, slotV us 90, slotV us 91, slotV us 92, slotV us 93, slotV us 94, slotV us 95, slotV us 96, slotV us 97, slotV us 98, slotV us 99, slotV us 100, slotV us 101, slotV us 102, slotV us 103, slotV us 104, slotV us 105, slotV us 106, slotV us 107, slotV us 108, slotV us 109, slotV us 110, slotV us 111, slotV us 112, slotV us 113, slotV us 114, slotV us 115, slotV us 116, slotV us 117, slotV us 118, slotV us 119, slotV us 120, slotV us 121, slotV us 122, slotV us 123, slotV us 124, slotV us 125, slotV us 126, slotV us 127, slotV us 128, slotV us 129, slotV us 130, slotV us 131, slotV us 132, slotV us 133, slotV us 134, slotV us 135, slotV us 136, slotV us 137, slotV us 138, slotV us 139, slotV us 140, slotV us 141, slotV us 142, slotV us 143, slotV us 144, slotV us 145, slotV us 146, slotV us 147, slotV us 148, slotV us 149, slotV us 150, slotV us 151, slotV us 152, slotV us 153, slotV us 154, slotV us 155, slotV us 156, slotV us 157, slotV us 158, slotV us 159, slotV us 160, slotV us 161, slotV us 162, slotV us 163, slotV us 164, slotV us 165, slotV us 166, slotV us 167, slotV us 168, slotV us 169, slotV us 170, slotV us 171, slotV us 172, slotV us 173, slotV us 174, slotV us 175, slotV us 176, slotV us 177, slotV us 178, slotV us 179, slotV us 180, slotV us 181, slotV us 182, slotV us 183, slotV us 184, slotV us 185, slotV us 186, slotV us 187, slotV us 188, slotV us 189, slotV us 190, slotV us 191, slotV us 192, slotV us 193, slotV us 194, slotV us 195, slotV us 196, slotV us 197, slotV us 198, slotV us 199, slotV us 200, slotV us 201, slotV us 202, slotV us 203, slotV us 204, slotV us 205, slotV us 206, slotV us 207, slotV us 208, slotV us 209, slotV us 210, slotV us 211, slotV us 212, slotV us 213, slotV us 214, slotV us 215, slotV us 216, slotV us 217, slotV us 218, slotV us 219, slotV us 220, slotV us 221, slotV us 222, slotV us 223, slotV us 224, slotV us 225, slotV us 226, slotV us 227, slotV us 228, slotV us 229, slotV us 230, slotV us 231, slotV us 232, slotV us 233, slotV us 234, slotV us 235, slotV us 236, slotV us 237, slotV us 238, slotV us 239, slotV us 240, slotV us 241, slotV us 242, slotV us 243, slotV us 244, slotV us 245, slotV us 246, slotV us 247, slotV us 248, slotV us 249, slotV us 250, slotV us 251, slotV us 252, slotV us 253, slotV us 254, slotV us 255, slotV us 256, slotV us 257, slotV us 258, slotV us 259, slotV us 260, slotV us 261, slotV us 262, slotV us 263, slotV us 264, slotV us 265, slotV us 266, slotV us 267, slotV us 268, slotV us 269, slotV us 270, slotV us 271, slotV us 272, slotV us 273, slotV us 274, slotV us 275, slotV us 276, slotV us 277, slotV us 278, slotV us 279, slotV us 280, slotV us 281, slotV us 282, slotV us 283, slotV us 284, slotV us 285, slotV us 286, slotV us 287, slotV us 288, slotV us 289, slotV us 290, slotV us 291, slotV us 292, slotV us 293, slotV us 294, slotV us 295, slotV us 296, slotV us 297, slotV us 298, slotV us 299, slotV us 300, slotV us 301, slotV us 302, slotV us 303, slotV us 304, slotV us 305, slotV us 306, slotV us 307, slotV us 308, slotV us 309, slotV us 310, slotV us 311, slotV us 312, slotV us 313, slotV us 314, slotV us 315, slotV us 316, slotV us 317, slotV us 318, slotV us 319, slotV us 320, slotV us 321, slotV us 322, slotV us 323, slotV us 324, slotV us 325, slotV us 326, slotV us 327, slotV us 328, slotV us 329, slotV us 330, slotV us 331, slotV us 332, slotV us 333, slotV us 334, slotV us 335, slotV us 336, slotV us 337, slotV us 338, slotV us 339, slotV us 340, slotV us 341, slotV us 342, slotV us 343, slotV us 344, slotV us 345, slotV us 346, slotV us 347, slotV us 348, slotV us 349, slotV us 350, slotV us 351, slotV us 352, slotV us 353, slotV us 354, slotV us 355, slotV us 356, slotV us 357, slotV us 358, slotV us 359, slotV us 360, slotV us 361, slotV us 362, slotV us 363, slotV us 364, slotV us 365, slotV us 366, slotV us 367, slotV us 368, slotV us 369, slotV us 370, slotV us 371, slotV us 372, slotV us 373, slotV us 374, slotV us 375, slotV us 376, slotV us 377, slotV us 378, slotV us 379, slotV us 380, slotV us 381, slotV us 382, slotV us 383, slotV us 384, slotV us 385, slotV us 386, slotV us 387, slotV us 388, slotV us 389, slotV us 390, slotV us 391, slotV us 392, slotV us 393, slotV us 394, slotV us 395, slotV us 396, slotV us 397, slotV us 398, slotV us 399, slotV us 400, slotV us 401, slotV us 402, slotV us 403, slotV us 404, slotV us 405, slotV us 406, slotV us 407, slotV us 408, slotV us 409, slotV us 410, slotV us 411, slotV us 412, slotV us 413, slotV us 414, slotV us 415, slotV us 416, slotV us 417, slotV us 418].toArray := congrArg List.toArray ((lit_range us 419 h).trans (by kernel_rfl))

/-- The first loop's body. -/
def loopOf : Code → Option Code
  | .loop c => some c
  | .seq a b => (loopOf a).or (loopOf b)
  | .cond _ a b => (loopOf a).or (loopOf b)
  | .block _ c => loopOf c
  | .scope c => loopOf c
  | _ => none
def isBlk (n : Nat) : Code → Bool
  | .block m _ => m == n
  | .seq _ b => isBlk n b
  | _ => false
/-- A block. -/
def blkOf (n : Nat) : Code → Option Code
  | .block m c => if m == n then some (.block m c) else blkOf n c
  | .seq a b => (blkOf n a).or (blkOf n b)
  | .cond _ a b => (blkOf n a).or (blkOf n b)
  | .loop c => blkOf n c
  | .scope c => blkOf n c
  | _ => none
/-- What follows a block. -/
def aftOf (n : Nat) : Code → Option Code
  | .seq a b => if isBlk n a then some b else (aftOf n a).or (aftOf n b)
  | .block _ c => aftOf n c
  | .cond _ a b => (aftOf n a).or (aftOf n b)
  | .loop c => aftOf n c
  | .scope c => aftOf n c
  | _ => none

structure Fr (l : List UInt8) (pp A0 B0 G0 T0 S0 I0 : Nat) (us : List Value) (s : Sx) (vk : Value) (pos : Int) : Prop where
  n : us.length = 419
  s0 : slotV us 0 = .pointer (some ⟨pp, 0, none⟩)
  s1 : slotV us 1 = .string (txt l)
  s6 : slotV us 6 = .pointer (some ⟨A0, 0, none⟩)
  s7 : slotV us 7 = .pointer (some ⟨B0, 0, none⟩)
  s8 : slotV us 8 = .bool s.esc
  s9 : slotV us 9 = .bool s.dq
  s10 : slotV us 10 = .bool s.sq
  s11 : slotV us 11 = .bool s.bq
  s12 : slotV us 12 = .bool s.dl
  s13 : slotV us 13 = .bool s.cm
  s14 : slotV us 14 = vk
  s15 : slotV us 15 = .int .i64 pos
  s16 : slotV us 16 = .pointer (some ⟨G0, 0, none⟩)
  s17 : slotV us 17 = .pointer (some ⟨T0, 0, none⟩)
  s18 : slotV us 18 = .pointer (some ⟨S0, 0, none⟩)
  s19 : slotV us 19 = .bool s.ad
  s20 : slotV us 20 = .int .i64 0
  s22 : slotV us 22 = .func (Fn.func 30) #[] #[.pointer (some ⟨G0, 0, none⟩), .pointer (some ⟨B0, 0, none⟩), .pointer (some ⟨A0, 0, none⟩), .pointer (some ⟨T0, 0, none⟩), .pointer (some ⟨S0, 0, none⟩)]
  s23 : slotV us 23 = .int .i64 s.i
  s50 : slotV us 50 = .pointer (some ⟨I0, 0, none⟩)
/-- Between two rounds. -/
structure Rd (w : World) (l : List UInt8) (pp A0 B0 G0 T0 S0 I0 : Nat) (cmt : Bool) (ex : List Nat) (R : Option (List (List UInt8) × Int)) (us : List Value) (s : Sx) (p rest bt : List UInt8) (vb vk : Value) (wr : World) : Prop where
  fr : Fr l pp A0 B0 G0 T0 S0 I0 us s vk (-1)
  e : l = p ++ rest
  got : s.got ≤ 2
  args : s.args.length ≤ p.length
  buf : s.buf.length ≤ 8 * p.length
  bts : bt.length ≤ 8 * p.length
  i0 : -1 ≤ s.i
  i1 : s.i + 1 ≤ p.length
  r : R = runS cmt ex s (rns rest)
  pw : PW w A0 B0 G0 T0 S0 I0 (txt l) p.length vb vk s.args s.buf bt s.got s.tq wr
def RInv (w : World) (l : List UInt8) (pp A0 B0 G0 T0 S0 I0 : Nat) (cmt : Bool) (ex : List Nat) (R : Option (List (List UInt8) × Int)) (gk : Nat) (a : Act) (wr : World) : Prop :=
  ∃ us s p rest bt vb vk, a = ⟨us.toArray, []⟩ ∧ Rd w l pp A0 B0 G0 T0 S0 I0 cmt ex R us s p rest bt vb vk wr ∧ rest.length < gk
/-- Where the loop is left. -/
def BInv (w : World) (l : List UInt8) (pp A0 B0 G0 T0 S0 I0 : Nat) (R : Option (List (List UInt8) × Int)) (a : Act) (wr : World) : Prop :=
  ∃ us s, ∃ (p : Nat), ∃ bt vb vk pos, a = ⟨us.toArray, []⟩ ∧ Fr l pp A0 B0 G0 T0 S0 I0 us s vk pos ∧ s.got ≤ 2 ∧ s.args.length ≤ l.length ∧ R = finS s pos ∧ PW w A0 B0 G0 T0 S0 I0 (txt l) p vb vk s.args s.buf bt s.got s.tq wr
/-- Where it is an error. -/
def EInv (w : World) (ev : Value) (R : Option (List (List UInt8) × Int)) (a : Act) (wr : World) : Prop :=
  ∃ us, a = ⟨us.toArray, []⟩ ∧ us.length = 419 ∧ slotV us 4 = .slice none 0 0 ∧ slotV us 5 = ev ∧ R = none ∧ Below w.heap.size w wr
/-- What stands fast. -/
structure Cs (w : World) (l : List UInt8) (pp A0 B0 G0 T0 S0 : Nat) (cmt : Bool) (ex : List Nat) (ev : Value) : Prop where
  hl : l.length ≤ 100000
  hx : ex.length ≤ 100000
  hpp : pp < w.heap.size
  c0 : w.cell? ⟨pp, 0, none⟩ = some (.bool false)
  c1 : w.cell? ⟨pp, 1, none⟩ = some (.bool cmt)
  xs : Ex pp ex w
  er : w.cell? ⟨0, 0, none⟩ = some ev
  k : PB w.heap.size A0 B0 G0 T0 S0

end Go.Proofs.YthekblmkcfkboaaDoor
