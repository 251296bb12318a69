/- The contracts of Go's library at this seat's translation, laid by the shelf's own commands in plain words; no condition of our own. -/
import Derived.Shelf.Small.Strs
import Derived.Shelf.Strings.Search1
import Derived.Shelf.GgClosure.StringsIndexFunc
import Derived.Ground.GgwProg
import Derived.Shelf.GgClosure.StringsIndexFuncTop
import Derived.Shelf.GgClosure.StringsRunes
import Derived.Shelf.Strings.Prefix
import Derived.Shelf.Unicode.Latin
import Derived.Shelf.Unicode.Props
import Derived.Shelf.LaysM
import Derived.Shelf.Unicode.PropsLaid
import Derived.Shelf.Unicode.Is16White
import Derived.Shelf.Unicode.IsSpaceAny
import Derived.Shelf.Unicode.Is16WhiteD
import Derived.Shelf.Unicode.IsSpaceAnyD
import Derived.Shelf.Unicode.Is16Any
import Derived.Shelf.Unicode.Is32Any
import Derived.Shelf.Unicode.ExclAny
import Derived.Shelf.Unicode.PredsAny
import Derived.Shelf.Strings.FuncGrows
import Derived.Shelf.Unicode.PredsPay
import Derived.Test.YthekblmkcfkboaaDoorProg
namespace Go.Proofs
open Go.Shelf
def Tryd.lays137_ren : Go.Shelf.Ren := ⟨fun | 137 => 40 | 217 => 45 | 266 => 47 | n => n, fun | 9 => 9 | 5 => 5 | 3 => 3 | n => n, fun | n => n⟩
theorem Tryd.lays137 : Go.Proofs.Lays.n137 Tryd.prog Tryd.lays137_ren := {
  mixed := by kernel_rfl
  f137 := Tryd.func40.trans (congrArg some (by kernel_rfl))
  f217 := Tryd.func45.trans (congrArg some (by kernel_rfl))
  f266 := Tryd.func47.trans (congrArg some (by kernel_rfl))
  t3 := Tryd.underlying3
  a3 := Tryd.isAgg3
  z3 := Tryd.sizeOf3
  v3 := Tryd.zeroValue3
  t5 := Tryd.underlying5
  a5 := Tryd.isAgg5
  z5 := Tryd.sizeOf5
  v5 := Tryd.zeroValue5
  t9 := Tryd.underlying9
  a9 := Tryd.isAgg9
  z9 := Tryd.sizeOf9
  v9 := Tryd.zeroValue9 }
open Go.RowKit in
theorem Tryd.strings_IndexByte (s : ByteArray) (c : Int) (w : World) :
    Calls Tryd.prog 40 #[.string s, .int .u8 c] w fun e w' => e = .returned (.int .i64 (Lib.indexByte s.data.toList c.toNat.toUInt8)) ∧ w' = w := Any.strings_IndexByte Tryd.lays137 s c w
def Tryd.lays217_ren : Go.Shelf.Ren := ⟨fun | 217 => 45 | 266 => 47 | n => n, fun | 9 => 9 | 5 => 5 | 3 => 3 | n => n, fun | n => n⟩
theorem Tryd.lays217 : Go.Proofs.Lays.n217 Tryd.prog Tryd.lays217_ren := {
  mixed := by kernel_rfl
  f217 := Tryd.func45.trans (congrArg some (by kernel_rfl))
  f266 := Tryd.func47.trans (congrArg some (by kernel_rfl))
  t3 := Tryd.underlying3
  a3 := Tryd.isAgg3
  z3 := Tryd.sizeOf3
  v3 := Tryd.zeroValue3
  t5 := Tryd.underlying5
  a5 := Tryd.isAgg5
  z5 := Tryd.sizeOf5
  v5 := Tryd.zeroValue5
  t9 := Tryd.underlying9
  a9 := Tryd.isAgg9
  z9 := Tryd.sizeOf9
  v9 := Tryd.zeroValue9 }
open Go.RowKit Go.Lib in
theorem Tryd.stringslite_IndexByte (s : ByteArray) (c : Int) (w : World) :
    Calls Tryd.prog 45 #[.string s, .int .u8 c] w fun e w' => e = .returned (.int .i64 (Lib.indexByte s.data.toList c.toNat.toUInt8)) ∧ w' = w := Any.stringslite_IndexByte Tryd.lays217 s c w
def Tryd.lays315_ren : Go.Shelf.Ren := ⟨fun | 315 => 42 | n => n, fun | 9 => 9 | 40 => 59 | 4 => 4 | 3 => 3 | 0 => 0 | 21 => 21 | n => n, fun | n => n⟩
theorem Tryd.lays315 : Go.Proofs.Lays.n315 Tryd.prog Tryd.lays315_ren := {
  mixed := by kernel_rfl
  f315 := Tryd.func42.trans (congrArg some (by kernel_rfl))
  t0 := Tryd.underlying0
  a0 := Tryd.isAgg0
  z0 := Tryd.sizeOf0
  v0 := Tryd.zeroValue0
  t3 := Tryd.underlying3
  a3 := Tryd.isAgg3
  z3 := Tryd.sizeOf3
  v3 := Tryd.zeroValue3
  t4 := Tryd.underlying4
  a4 := Tryd.isAgg4
  z4 := Tryd.sizeOf4
  v4 := Tryd.zeroValue4
  t9 := Tryd.underlying9
  a9 := Tryd.isAgg9
  z9 := Tryd.sizeOf9
  v9 := Tryd.zeroValue9
  t21 := Tryd.underlying21
  a21 := Tryd.isAgg21
  z21 := Tryd.sizeOf21
  v21 := Tryd.zeroValue21
  t40 := Tryd.underlying59
  a40 := Tryd.isAgg59
  z40 := Tryd.sizeOf59
  v40 := Tryd.zeroValue59 }
open Go.RowKit Go.Lib in
theorem Tryd.strings_indexFunc (g : Nat) (lb : Array Value) (eg : ∀ args w, (callFunc g args).run Tryd.prog w = .ok (.enter g args) w) (p : Nat → Bool) (truth : Bool) (s : ByteArray) (w : World) (hp : PredAt Tryd.prog g lb encR p w) :
    Calls Tryd.prog 42 #[.string s, .func (.func g) #[] lb, .bool truth] w fun e w' => e = .returned (.int .i64 (Lib.idxFunc p truth s)) ∧ Below w.heap.size w w' := Any.strings_indexFunc Tryd.lays315 g lb eg p truth s w hp
def Tryd.laysGw15_ren : Go.Shelf.Ren := ⟨fun | 15 => 36 | 20 => 42 | n => n, fun | 9 => 9 | 23 => 59 | 3 => 3 | 4 => 4 | 0 => 0 | 21 => 21 | n => n, fun | n => n⟩
theorem Tryd.laysGw15 : Go.Proofs.LaysGw.n15 Tryd.prog Tryd.laysGw15_ren := {
  mixed := by kernel_rfl
  f15 := Tryd.func36.trans (congrArg some (by kernel_rfl))
  f20 := Tryd.func42.trans (congrArg some (by kernel_rfl))
  t0 := Tryd.underlying0
  a0 := Tryd.isAgg0
  z0 := Tryd.sizeOf0
  v0 := Tryd.zeroValue0
  i0 := by kernel_rfl
  t3 := Tryd.underlying3
  a3 := Tryd.isAgg3
  z3 := Tryd.sizeOf3
  v3 := Tryd.zeroValue3
  i3 := by kernel_rfl
  t4 := Tryd.underlying4
  a4 := Tryd.isAgg4
  z4 := Tryd.sizeOf4
  v4 := Tryd.zeroValue4
  i4 := by kernel_rfl
  t9 := Tryd.underlying9
  a9 := Tryd.isAgg9
  z9 := Tryd.sizeOf9
  v9 := Tryd.zeroValue9
  i9 := by kernel_rfl
  t21 := Tryd.underlying21
  a21 := Tryd.isAgg21
  z21 := Tryd.sizeOf21
  v21 := Tryd.zeroValue21
  i21 := by kernel_rfl
  t23 := Tryd.underlying59
  a23 := Tryd.isAgg59
  z23 := Tryd.sizeOf59
  v23 := Tryd.zeroValue59
  i23 := by kernel_rfl }
open Go.RowKit Go.Lib in
theorem Tryd.strings_IndexFunc (g : Nat) (lb : Array Value) (eg : ∀ args w, (callFunc g args).run Tryd.prog w = .ok (.enter g args) w) (p : Nat → Bool) (s : ByteArray) (w : World) (hp : PredAt Tryd.prog g lb encR p w) :
    Calls Tryd.prog 36 #[.string s, .func (.func g) #[] lb] w fun e w' => e = .returned (.int .i64 (Lib.idxFunc p true s)) ∧ Below w.heap.size w w' := Any.strings_IndexFunc Tryd.laysGw15 g lb eg p s w hp
open Go.RowKit Go.Lib in
theorem Tryd.strings_indexFunc_runes (g : Nat) (lb : Array Value) (eg : ∀ args w, (callFunc g args).run Tryd.prog w = .ok (.enter g args) w) (p : Nat → Bool) (truth : Bool) (s : ByteArray) (w : World) (hp : PredAtRunes Tryd.prog g lb p w) :
    Calls Tryd.prog 42 #[.string s, .func (.func g) #[] lb, .bool truth] w fun e w' => e = .returned (.int .i64 (Lib.idxFunc p truth s)) ∧ Below w.heap.size w w' := Any.strings_indexFunc_runes Tryd.lays315 g lb eg p truth s w hp
open Go.RowKit Go.Lib in
theorem Tryd.strings_IndexFunc_runes (g : Nat) (lb : Array Value) (eg : ∀ args w, (callFunc g args).run Tryd.prog w = .ok (.enter g args) w) (p : Nat → Bool) (s : ByteArray) (w : World) (hp : PredAtRunes Tryd.prog g lb p w) :
    Calls Tryd.prog 36 #[.string s, .func (.func g) #[] lb] w fun e w' => e = .returned (.int .i64 (Lib.idxFunc p true s)) ∧ Below w.heap.size w w' := Any.strings_IndexFunc_runes Tryd.laysGw15 g lb eg p s w hp
def Tryd.lays206_ren : Go.Shelf.Ren := ⟨fun | 206 => 41 | n => n, fun | 9 => 9 | 4 => 4 | 3 => 3 | n => n, fun | n => n⟩
theorem Tryd.lays206 : Go.Proofs.Lays.n206 Tryd.prog Tryd.lays206_ren := {
  mixed := by kernel_rfl
  f206 := Tryd.func41.trans (congrArg some (by kernel_rfl))
  t3 := Tryd.underlying3
  a3 := Tryd.isAgg3
  z3 := Tryd.sizeOf3
  v3 := Tryd.zeroValue3
  t4 := Tryd.underlying4
  a4 := Tryd.isAgg4
  z4 := Tryd.sizeOf4
  v4 := Tryd.zeroValue4
  t9 := Tryd.underlying9
  a9 := Tryd.isAgg9
  z9 := Tryd.sizeOf9
  v9 := Tryd.zeroValue9 }
open Go.RowKit Go.Lib in
theorem Tryd.stringslite_HasPrefix (s p : ByteArray) (w : World) :
    Calls Tryd.prog 41 #[.string s, .string p] w fun e w' => e = .returned (.bool (Lib.hasPrefix s.data.toList p.data.toList)) ∧ w' = w := Any.stringslite_HasPrefix Tryd.lays206 s p w
def Tryd.lays99_ren : Go.Shelf.Ren := ⟨fun | 99 => 35 | 206 => 41 | n => n, fun | 9 => 9 | 4 => 4 | 3 => 3 | n => n, fun | n => n⟩
theorem Tryd.lays99 : Go.Proofs.Lays.n99 Tryd.prog Tryd.lays99_ren := {
  mixed := by kernel_rfl
  f99 := Tryd.func35.trans (congrArg some (by kernel_rfl))
  f206 := Tryd.func41.trans (congrArg some (by kernel_rfl))
  t3 := Tryd.underlying3
  a3 := Tryd.isAgg3
  z3 := Tryd.sizeOf3
  v3 := Tryd.zeroValue3
  t4 := Tryd.underlying4
  a4 := Tryd.isAgg4
  z4 := Tryd.sizeOf4
  v4 := Tryd.zeroValue4
  t9 := Tryd.underlying9
  a9 := Tryd.isAgg9
  z9 := Tryd.sizeOf9
  v9 := Tryd.zeroValue9 }
open Go.RowKit Go.Lib in
theorem Tryd.strings_HasPrefix (s p : ByteArray) (w : World) :
    Calls Tryd.prog 35 #[.string s, .string p] w fun e w' => e = .returned (.bool (Lib.hasPrefix s.data.toList p.data.toList)) ∧ w' = w := Any.strings_HasPrefix Tryd.lays99 s p w
def Tryd.lays198_ren : Go.Shelf.Ren := ⟨fun | 198 => 44 | 261 => 46 | 311 => 48 | 312 => 49 | n => n, fun | 21 => 21 | 4 => 4 | 141 => 68 | 0 => 0 | 196 => 72 | 193 => 69 | 3 => 3 | 51 => 65 | 198 => 75 | 49 => 73 | 194 => 70 | 201 => 78 | 226 => 80 | 46 => 81 | 227 => 82 | n => n, fun | 5 => 3 | n => n⟩
theorem Tryd.lays198 : Go.Proofs.Lays.n198 Tryd.prog Tryd.lays198_ren := {
  mixed := by kernel_rfl
  f198 := Tryd.func44.trans (congrArg some (by kernel_rfl))
  f261 := Tryd.func46.trans (congrArg some (by kernel_rfl))
  f311 := Tryd.func48.trans (congrArg some (by kernel_rfl))
  f312 := Tryd.func49.trans (congrArg some (by kernel_rfl))
  t0 := Tryd.underlying0
  a0 := Tryd.isAgg0
  z0 := Tryd.sizeOf0
  v0 := Tryd.zeroValue0
  t3 := Tryd.underlying3
  a3 := Tryd.isAgg3
  z3 := Tryd.sizeOf3
  v3 := Tryd.zeroValue3
  t4 := Tryd.underlying4
  a4 := Tryd.isAgg4
  z4 := Tryd.sizeOf4
  v4 := Tryd.zeroValue4
  t21 := Tryd.underlying21
  a21 := Tryd.isAgg21
  z21 := Tryd.sizeOf21
  v21 := Tryd.zeroValue21
  t46 := Tryd.underlying81
  a46 := Tryd.isAgg81
  z46 := Tryd.sizeOf81
  v46 := Tryd.zeroValue81
  t49 := Tryd.underlying73
  a49 := Tryd.isAgg73
  z49 := Tryd.sizeOf73
  v49 := Tryd.zeroValue73
  t51 := Tryd.underlying65
  a51 := Tryd.isAgg65
  z51 := Tryd.sizeOf65
  v51 := Tryd.zeroValue65
  t141 := Tryd.underlying68
  a141 := Tryd.isAgg68
  z141 := Tryd.sizeOf68
  v141 := Tryd.zeroValue68
  t193 := Tryd.underlying69
  a193 := Tryd.isAgg69
  z193 := Tryd.sizeOf69
  v193 := Tryd.zeroValue69
  t194 := Tryd.underlying70
  a194 := Tryd.isAgg70
  z194 := Tryd.sizeOf70
  v194 := Tryd.zeroValue70
  t196 := Tryd.underlying72
  a196 := Tryd.isAgg72
  z196 := Tryd.sizeOf72
  v196 := Tryd.zeroValue72
  t198 := Tryd.underlying75
  a198 := Tryd.isAgg75
  z198 := Tryd.sizeOf75
  v198 := Tryd.zeroValue75
  t201 := Tryd.underlying78
  a201 := Tryd.isAgg78
  z201 := Tryd.sizeOf78
  v201 := Tryd.zeroValue78
  t226 := Tryd.underlying80
  a226 := Tryd.isAgg80
  z226 := Tryd.sizeOf80
  v226 := Tryd.zeroValue80
  t227 := Tryd.underlying82
  a227 := Tryd.isAgg82
  z227 := Tryd.sizeOf82
  v227 := Tryd.zeroValue82
  g5 := by kernel_rfl }
open Go.RowKit Go.Lib in
theorem Tryd.unicode_IsDigit (r : Int) (w : World) (h : r ≤ 255) :
    Calls Tryd.prog 44 #[.int .i32 r] w fun e w' => e = .returned (.bool (Lib.isDigitL r)) ∧ w' = w := Any.unicode_IsDigit Tryd.lays198 r w h
def Tryd.lays200_ren : Go.Shelf.Ren := ⟨fun | 200 => 43 | 261 => 46 | 311 => 48 | 312 => 49 | n => n, fun | 21 => 21 | 4 => 4 | 51 => 65 | 5 => 5 | 119 => 66 | 0 => 0 | 141 => 68 | 196 => 72 | 193 => 69 | 3 => 3 | 198 => 75 | 49 => 73 | 194 => 70 | 201 => 78 | 226 => 80 | 46 => 81 | 227 => 82 | n => n, fun | 7 => 1 | 8 => 2 | n => n⟩
theorem Tryd.lays200 : Go.Proofs.Lays.n200 Tryd.prog Tryd.lays200_ren := {
  mixed := by kernel_rfl
  f200 := Tryd.func43.trans (congrArg some (by kernel_rfl))
  f261 := Tryd.func46.trans (congrArg some (by kernel_rfl))
  f311 := Tryd.func48.trans (congrArg some (by kernel_rfl))
  f312 := Tryd.func49.trans (congrArg some (by kernel_rfl))
  t0 := Tryd.underlying0
  a0 := Tryd.isAgg0
  z0 := Tryd.sizeOf0
  v0 := Tryd.zeroValue0
  t3 := Tryd.underlying3
  a3 := Tryd.isAgg3
  z3 := Tryd.sizeOf3
  v3 := Tryd.zeroValue3
  t4 := Tryd.underlying4
  a4 := Tryd.isAgg4
  z4 := Tryd.sizeOf4
  v4 := Tryd.zeroValue4
  t5 := Tryd.underlying5
  a5 := Tryd.isAgg5
  z5 := Tryd.sizeOf5
  v5 := Tryd.zeroValue5
  t21 := Tryd.underlying21
  a21 := Tryd.isAgg21
  z21 := Tryd.sizeOf21
  v21 := Tryd.zeroValue21
  t46 := Tryd.underlying81
  a46 := Tryd.isAgg81
  z46 := Tryd.sizeOf81
  v46 := Tryd.zeroValue81
  t49 := Tryd.underlying73
  a49 := Tryd.isAgg73
  z49 := Tryd.sizeOf73
  v49 := Tryd.zeroValue73
  t51 := Tryd.underlying65
  a51 := Tryd.isAgg65
  z51 := Tryd.sizeOf65
  v51 := Tryd.zeroValue65
  t119 := Tryd.underlying66
  a119 := Tryd.isAgg66
  z119 := Tryd.sizeOf66
  t141 := Tryd.underlying68
  a141 := Tryd.isAgg68
  z141 := Tryd.sizeOf68
  v141 := Tryd.zeroValue68
  t193 := Tryd.underlying69
  a193 := Tryd.isAgg69
  z193 := Tryd.sizeOf69
  v193 := Tryd.zeroValue69
  t194 := Tryd.underlying70
  a194 := Tryd.isAgg70
  z194 := Tryd.sizeOf70
  v194 := Tryd.zeroValue70
  t196 := Tryd.underlying72
  a196 := Tryd.isAgg72
  z196 := Tryd.sizeOf72
  v196 := Tryd.zeroValue72
  t198 := Tryd.underlying75
  a198 := Tryd.isAgg75
  z198 := Tryd.sizeOf75
  v198 := Tryd.zeroValue75
  t201 := Tryd.underlying78
  a201 := Tryd.isAgg78
  z201 := Tryd.sizeOf78
  v201 := Tryd.zeroValue78
  t226 := Tryd.underlying80
  a226 := Tryd.isAgg80
  z226 := Tryd.sizeOf80
  v226 := Tryd.zeroValue80
  t227 := Tryd.underlying82
  a227 := Tryd.isAgg82
  z227 := Tryd.sizeOf82
  v227 := Tryd.zeroValue82
  g7 := by kernel_rfl
  g8 := by kernel_rfl }
open Go.RowKit Go.Lib in
theorem Tryd.unicode_IsLetter (c : Nat) (w : World) (hc : c < 256) (htab : Lib.TabIs Tryd.prog w "unicode.properties" .u8 Lib.propertiesTab) :
    Calls Tryd.prog 43 #[.int .i32 c] w fun e w' => e = .returned (.bool (Lib.isLetterL c)) ∧ w' = w := Any.unicode_IsLetter Tryd.lays200 (by kernel_rfl) c w hc htab
def Tryd.laysM200_ren : Go.Shelf.Ren := ⟨fun | 200 => 43 | 261 => 46 | 311 => 48 | 312 => 49 | n => n, fun | 21 => 21 | 4 => 4 | 51 => 65 | 5 => 5 | 119 => 66 | 0 => 0 | 141 => 68 | 196 => 72 | 193 => 69 | 3 => 3 | 198 => 75 | 49 => 73 | 194 => 70 | 201 => 78 | 226 => 80 | 46 => 81 | 227 => 82 | n => n, fun | 7 => 1 | 8 => 2 | n => n⟩
theorem Tryd.laysM200 : Go.Proofs.LaysM.n200 Tryd.prog Tryd.laysM200_ren := {
  mixed := by kernel_rfl
  f200 := Tryd.func43.trans (congrArg some (by kernel_rfl))
  f261 := Tryd.func46.trans (congrArg some (by kernel_rfl))
  f311 := Tryd.func48.trans (congrArg some (by kernel_rfl))
  f312 := Tryd.func49.trans (congrArg some (by kernel_rfl))
  t0 := Tryd.underlying0
  a0 := Tryd.isAgg0
  z0 := Tryd.sizeOf0
  v0 := Tryd.zeroValue0
  t3 := Tryd.underlying3
  a3 := Tryd.isAgg3
  z3 := Tryd.sizeOf3
  v3 := Tryd.zeroValue3
  t4 := Tryd.underlying4
  a4 := Tryd.isAgg4
  z4 := Tryd.sizeOf4
  v4 := Tryd.zeroValue4
  t5 := Tryd.underlying5
  a5 := Tryd.isAgg5
  z5 := Tryd.sizeOf5
  v5 := Tryd.zeroValue5
  t21 := Tryd.underlying21
  a21 := Tryd.isAgg21
  z21 := Tryd.sizeOf21
  v21 := Tryd.zeroValue21
  t46 := Tryd.underlying81
  a46 := Tryd.isAgg81
  z46 := Tryd.sizeOf81
  v46 := Tryd.zeroValue81
  t49 := Tryd.underlying73
  a49 := Tryd.isAgg73
  z49 := Tryd.sizeOf73
  v49 := Tryd.zeroValue73
  t51 := Tryd.underlying65
  a51 := Tryd.isAgg65
  z51 := Tryd.sizeOf65
  v51 := Tryd.zeroValue65
  t119 := Tryd.underlying66
  a119 := Tryd.isAgg66
  z119 := Tryd.sizeOf66
  t141 := Tryd.underlying68
  a141 := Tryd.isAgg68
  z141 := Tryd.sizeOf68
  v141 := Tryd.zeroValue68
  t193 := Tryd.underlying69
  a193 := Tryd.isAgg69
  z193 := Tryd.sizeOf69
  v193 := Tryd.zeroValue69
  t194 := Tryd.underlying70
  a194 := Tryd.isAgg70
  z194 := Tryd.sizeOf70
  v194 := Tryd.zeroValue70
  t196 := Tryd.underlying72
  a196 := Tryd.isAgg72
  z196 := Tryd.sizeOf72
  v196 := Tryd.zeroValue72
  t198 := Tryd.underlying75
  a198 := Tryd.isAgg75
  z198 := Tryd.sizeOf75
  v198 := Tryd.zeroValue75
  t201 := Tryd.underlying78
  a201 := Tryd.isAgg78
  z201 := Tryd.sizeOf78
  v201 := Tryd.zeroValue78
  t226 := Tryd.underlying80
  a226 := Tryd.isAgg80
  z226 := Tryd.sizeOf80
  v226 := Tryd.zeroValue80
  t227 := Tryd.underlying82
  a227 := Tryd.isAgg82
  z227 := Tryd.sizeOf82
  v227 := Tryd.zeroValue82
  g7 := by kernel_rfl
  g8 := by kernel_rfl
  i0 := by kernel_rfl
  i3 := by kernel_rfl
  i4 := by kernel_rfl
  i5 := by kernel_rfl
  i21 := by kernel_rfl
  i46 := by kernel_rfl
  i49 := by kernel_rfl
  i51 := by kernel_rfl
  i141 := by kernel_rfl
  i193 := by kernel_rfl
  i194 := by kernel_rfl
  i196 := by kernel_rfl
  i198 := by kernel_rfl
  i201 := by kernel_rfl
  i226 := by kernel_rfl
  i227 := by kernel_rfl
  m7 := by kernel_rfl
  m8 := by kernel_rfl }
open Go.RowKit Go.Lib in
theorem Tryd.unicode_IsLetter_laid (c : Nat) (w : World) (hc : c < 256) (htab : Lib.TabIs Tryd.prog w "unicode.properties" .u8 Lib.propertiesTab) :
    Calls Tryd.prog 43 #[.int .i32 c] w fun e w' => e = .returned (.bool (Lib.isLetterL c)) ∧ w' = w := Any.unicode_IsLetter_laid Tryd.laysM200 c w hc htab
def Tryd.lays311_ren : Go.Shelf.Ren := ⟨fun | 311 => 48 | n => n, fun | 193 => 69 | 49 => 73 | 4 => 4 | 3 => 3 | 0 => 0 | 226 => 80 | 198 => 75 | 46 => 81 | n => n, fun | n => n⟩
theorem Tryd.lays311 : Go.Proofs.Lays.n311 Tryd.prog Tryd.lays311_ren := {
  mixed := by kernel_rfl
  f311 := Tryd.func48.trans (congrArg some (by kernel_rfl))
  t0 := Tryd.underlying0
  a0 := Tryd.isAgg0
  z0 := Tryd.sizeOf0
  v0 := Tryd.zeroValue0
  t3 := Tryd.underlying3
  a3 := Tryd.isAgg3
  z3 := Tryd.sizeOf3
  v3 := Tryd.zeroValue3
  t4 := Tryd.underlying4
  a4 := Tryd.isAgg4
  z4 := Tryd.sizeOf4
  v4 := Tryd.zeroValue4
  t46 := Tryd.underlying81
  a46 := Tryd.isAgg81
  z46 := Tryd.sizeOf81
  v46 := Tryd.zeroValue81
  t49 := Tryd.underlying73
  a49 := Tryd.isAgg73
  z49 := Tryd.sizeOf73
  v49 := Tryd.zeroValue73
  t193 := Tryd.underlying69
  a193 := Tryd.isAgg69
  z193 := Tryd.sizeOf69
  v193 := Tryd.zeroValue69
  t198 := Tryd.underlying75
  a198 := Tryd.isAgg75
  z198 := Tryd.sizeOf75
  v198 := Tryd.zeroValue75
  t226 := Tryd.underlying80
  a226 := Tryd.isAgg80
  z226 := Tryd.sizeOf80
  v226 := Tryd.zeroValue80 }
open Go.RowKit Go.Lib in
theorem Tryd.unicode_is16_white (R oR : Nat) (z : Nat) (w : World) (hz : z < 65536) (hz0 : 255 < z) (c6 : w.cell? ⟨R, oR + 6, none⟩ = some (.int .u16 160)) (c7 : w.cell? ⟨R, oR + 7, none⟩ = some (.int .u16 5760)) (c8 : w.cell? ⟨R, oR + 8, none⟩ = some (.int .u16 5600)) (c9 : w.cell? ⟨R, oR + 9, none⟩ = some (.int .u16 8192)) (c10 : w.cell? ⟨R, oR + 10, none⟩ = some (.int .u16 8202)) (c11 : w.cell? ⟨R, oR + 11, none⟩ = some (.int .u16 1)) (c12 : w.cell? ⟨R, oR + 12, none⟩ = some (.int .u16 8232)) (c13 : w.cell? ⟨R, oR + 13, none⟩ = some (.int .u16 8233)) (c14 : w.cell? ⟨R, oR + 14, none⟩ = some (.int .u16 1)) (c15 : w.cell? ⟨R, oR + 15, none⟩ = some (.int .u16 8239)) (c16 : w.cell? ⟨R, oR + 16, none⟩ = some (.int .u16 8287)) (c17 : w.cell? ⟨R, oR + 17, none⟩ = some (.int .u16 48)) (c18 : w.cell? ⟨R, oR + 18, none⟩ = some (.int .u16 12288)) (c19 : w.cell? ⟨R, oR + 19, none⟩ = some (.int .u16 12288)) (c20 : w.cell? ⟨R, oR + 20, none⟩ = some (.int .u16 1)) :
    Calls Tryd.prog 48 #[.slice (some ⟨R, oR + 6, none⟩) 5 5, .int .u16 z] w fun e w' => e = .returned (.bool (Lib.isSpaceR z)) ∧ Below w.heap.size w w' := Any.unicode_is16_white Tryd.lays311 R oR z w hz hz0 c6 c7 c8 c9 c10 c11 c12 c13 c14 c15 c16 c17 c18 c19 c20
def Tryd.lays261_ren : Go.Shelf.Ren := ⟨fun | 261 => 46 | 311 => 48 | 312 => 49 | n => n, fun | 141 => 68 | 21 => 21 | 4 => 4 | 0 => 0 | 196 => 72 | 193 => 69 | 3 => 3 | 51 => 65 | 198 => 75 | 49 => 73 | 194 => 70 | 201 => 78 | 226 => 80 | 46 => 81 | 227 => 82 | n => n, fun | n => n⟩
theorem Tryd.lays261 : Go.Proofs.Lays.n261 Tryd.prog Tryd.lays261_ren := {
  mixed := by kernel_rfl
  f261 := Tryd.func46.trans (congrArg some (by kernel_rfl))
  f311 := Tryd.func48.trans (congrArg some (by kernel_rfl))
  f312 := Tryd.func49.trans (congrArg some (by kernel_rfl))
  t0 := Tryd.underlying0
  a0 := Tryd.isAgg0
  z0 := Tryd.sizeOf0
  v0 := Tryd.zeroValue0
  t3 := Tryd.underlying3
  a3 := Tryd.isAgg3
  z3 := Tryd.sizeOf3
  v3 := Tryd.zeroValue3
  t4 := Tryd.underlying4
  a4 := Tryd.isAgg4
  z4 := Tryd.sizeOf4
  v4 := Tryd.zeroValue4
  t21 := Tryd.underlying21
  a21 := Tryd.isAgg21
  z21 := Tryd.sizeOf21
  v21 := Tryd.zeroValue21
  t46 := Tryd.underlying81
  a46 := Tryd.isAgg81
  z46 := Tryd.sizeOf81
  v46 := Tryd.zeroValue81
  t49 := Tryd.underlying73
  a49 := Tryd.isAgg73
  z49 := Tryd.sizeOf73
  v49 := Tryd.zeroValue73
  t51 := Tryd.underlying65
  a51 := Tryd.isAgg65
  z51 := Tryd.sizeOf65
  v51 := Tryd.zeroValue65
  t141 := Tryd.underlying68
  a141 := Tryd.isAgg68
  z141 := Tryd.sizeOf68
  v141 := Tryd.zeroValue68
  t193 := Tryd.underlying69
  a193 := Tryd.isAgg69
  z193 := Tryd.sizeOf69
  v193 := Tryd.zeroValue69
  t194 := Tryd.underlying70
  a194 := Tryd.isAgg70
  z194 := Tryd.sizeOf70
  v194 := Tryd.zeroValue70
  t196 := Tryd.underlying72
  a196 := Tryd.isAgg72
  z196 := Tryd.sizeOf72
  v196 := Tryd.zeroValue72
  t198 := Tryd.underlying75
  a198 := Tryd.isAgg75
  z198 := Tryd.sizeOf75
  v198 := Tryd.zeroValue75
  t201 := Tryd.underlying78
  a201 := Tryd.isAgg78
  z201 := Tryd.sizeOf78
  v201 := Tryd.zeroValue78
  t226 := Tryd.underlying80
  a226 := Tryd.isAgg80
  z226 := Tryd.sizeOf80
  v226 := Tryd.zeroValue80
  t227 := Tryd.underlying82
  a227 := Tryd.isAgg82
  z227 := Tryd.sizeOf82
  v227 := Tryd.zeroValue82 }
open Go.RowKit Go.Lib in
theorem Tryd.unicode_isExcludingLatin_white (T oT R oR : Nat) (r : Int) (w : World) (hlo : -2147483648 ≤ r) (hhi : r ≤ 2147483647) (hr : r < 0 ∨ 255 < r) (h2 : w.cell? ⟨T, oT, none⟩ = some (.slice (some ⟨R, oR, none⟩) 7 7)) (h3 : w.cell? ⟨T, oT + 1, none⟩ = some (.slice none 0 0)) (h4 : w.cell? ⟨T, oT + 2, none⟩ = some (.int .i64 2)) (h5 : ∀ i, i < 21 → w.cell? ⟨R, oR + i, none⟩ = some (.int .u16 (whiteT.getD i 0))) :
    Calls Tryd.prog 46 #[.pointer (some ⟨T, oT, none⟩), .int .i32 r] w fun e w' => e = .returned (.bool (Lib.isSpaceZ r)) ∧ Below w.heap.size w w' := Any.unicode_isExcludingLatin_white Tryd.lays261 T oT R oR r w hlo hhi hr h2 h3 h4 h5
open Go.RowKit Go.Lib in
theorem Tryd.unicode_is16_white_d (R oR : Nat) (z : Nat) (w : World) (hz : z < 65536) (hz0 : 255 < z) (c6 : w.cell? ⟨R, oR + 6, none⟩ = some (.int .u16 160)) (c7 : w.cell? ⟨R, oR + 7, none⟩ = some (.int .u16 5760)) (c8 : w.cell? ⟨R, oR + 8, none⟩ = some (.int .u16 5600)) (c9 : w.cell? ⟨R, oR + 9, none⟩ = some (.int .u16 8192)) (c10 : w.cell? ⟨R, oR + 10, none⟩ = some (.int .u16 8202)) (c11 : w.cell? ⟨R, oR + 11, none⟩ = some (.int .u16 1)) (c12 : w.cell? ⟨R, oR + 12, none⟩ = some (.int .u16 8232)) (c13 : w.cell? ⟨R, oR + 13, none⟩ = some (.int .u16 8233)) (c14 : w.cell? ⟨R, oR + 14, none⟩ = some (.int .u16 1)) (c15 : w.cell? ⟨R, oR + 15, none⟩ = some (.int .u16 8239)) (c16 : w.cell? ⟨R, oR + 16, none⟩ = some (.int .u16 8287)) (c17 : w.cell? ⟨R, oR + 17, none⟩ = some (.int .u16 48)) (c18 : w.cell? ⟨R, oR + 18, none⟩ = some (.int .u16 12288)) (c19 : w.cell? ⟨R, oR + 19, none⟩ = some (.int .u16 12288)) (c20 : w.cell? ⟨R, oR + 20, none⟩ = some (.int .u16 1)) :
    Calls Tryd.prog 48 #[.slice (some ⟨R, oR + 6, none⟩) 5 5, .int .u16 z] w fun e w' => e = .returned (.bool (Lib.isSpaceR z)) ∧ ∃ q, w' = w.drewN q := Any.unicode_is16_white_d Tryd.lays311 R oR z w hz hz0 c6 c7 c8 c9 c10 c11 c12 c13 c14 c15 c16 c17 c18 c19 c20
open Go.RowKit Go.Lib in
theorem Tryd.unicode_isExcludingLatin_white_d (T oT R oR : Nat) (r : Int) (w : World) (hlo : -2147483648 ≤ r) (hhi : r ≤ 2147483647) (hr : r < 0 ∨ 255 < r) (h2 : w.cell? ⟨T, oT, none⟩ = some (.slice (some ⟨R, oR, none⟩) 7 7)) (h3 : w.cell? ⟨T, oT + 1, none⟩ = some (.slice none 0 0)) (h4 : w.cell? ⟨T, oT + 2, none⟩ = some (.int .i64 2)) (h5 : ∀ i, i < 21 → w.cell? ⟨R, oR + i, none⟩ = some (.int .u16 (whiteT.getD i 0))) :
    Calls Tryd.prog 46 #[.pointer (some ⟨T, oT, none⟩), .int .i32 r] w fun e w' => e = .returned (.bool (Lib.isSpaceZ r)) ∧ ∃ q, w' = w.drewN q := Any.unicode_isExcludingLatin_white_d Tryd.lays261 T oT R oR r w hlo hhi hr h2 h3 h4 h5
open Go.RowKit Go.Lib in
theorem Tryd.unicode_is16_any (T : Array Rg) (R oR cap : Nat) (z : Nat) (w : World) (hz : z < 65536) (hT : RgTab .u16 R oR T w) (hok : RgOk 65536 T) (hn : T.size ≤ 1000000000) :
    Calls Tryd.prog 48 #[.slice (some ⟨R, oR, none⟩) T.size cap, .int .u16 z] w fun e w' => e = .returned (.bool (is16Go T z)) ∧ ∃ q, w' = w.drewN q := Any.unicode_is16_any Tryd.lays311 T R oR cap z w hz hT hok hn
def Tryd.lays312_ren : Go.Shelf.Ren := ⟨fun | 312 => 49 | n => n, fun | 194 => 70 | 51 => 65 | 4 => 4 | 3 => 3 | 0 => 0 | 227 => 82 | 201 => 78 | 46 => 81 | n => n, fun | n => n⟩
theorem Tryd.lays312 : Go.Proofs.Lays.n312 Tryd.prog Tryd.lays312_ren := {
  mixed := by kernel_rfl
  f312 := Tryd.func49.trans (congrArg some (by kernel_rfl))
  t0 := Tryd.underlying0
  a0 := Tryd.isAgg0
  z0 := Tryd.sizeOf0
  v0 := Tryd.zeroValue0
  t3 := Tryd.underlying3
  a3 := Tryd.isAgg3
  z3 := Tryd.sizeOf3
  v3 := Tryd.zeroValue3
  t4 := Tryd.underlying4
  a4 := Tryd.isAgg4
  z4 := Tryd.sizeOf4
  v4 := Tryd.zeroValue4
  t46 := Tryd.underlying81
  a46 := Tryd.isAgg81
  z46 := Tryd.sizeOf81
  v46 := Tryd.zeroValue81
  t51 := Tryd.underlying65
  a51 := Tryd.isAgg65
  z51 := Tryd.sizeOf65
  v51 := Tryd.zeroValue65
  t194 := Tryd.underlying70
  a194 := Tryd.isAgg70
  z194 := Tryd.sizeOf70
  v194 := Tryd.zeroValue70
  t201 := Tryd.underlying78
  a201 := Tryd.isAgg78
  z201 := Tryd.sizeOf78
  v201 := Tryd.zeroValue78
  t227 := Tryd.underlying82
  a227 := Tryd.isAgg82
  z227 := Tryd.sizeOf82
  v227 := Tryd.zeroValue82 }
open Go.RowKit Go.Lib in
theorem Tryd.unicode_is32_any (T : Array Rg) (R oR cap : Nat) (z : Nat) (w : World) (hz : z < 4294967296) (hT : RgTab .u32 R oR T w) (hok : RgOk 4294967296 T) (hn : T.size ≤ 1000000000) :
    Calls Tryd.prog 49 #[.slice (some ⟨R, oR, none⟩) T.size cap, .int .u32 z] w fun e w' => e = .returned (.bool (is32Go T z)) ∧ Below w.heap.size w w' := Any.unicode_is32_any Tryd.lays312 T R oR cap z w hz hT hok hn
open Go.RowKit Go.Lib in
theorem Tryd.unicode_isExcludingLatin_any (Tb oT : Nat) (T : RTab) (r : Int) (w : World) (hlo : -2147483648 ≤ r) (hhi : r ≤ 2147483647) (hA : RTabAt Tb oT T w) (hok : RTabOk T) :
    Calls Tryd.prog 46 #[.pointer (some ⟨Tb, oT, none⟩), .int .i32 r] w fun e w' => e = .returned (.bool (exclGo T r)) ∧ Below w.heap.size w w' := Any.unicode_isExcludingLatin_any Tryd.lays261 Tb oT T r w hlo hhi hA hok
open Go.RowKit Go.Lib in
theorem Tryd.unicode_IsLetter_any (T : RTab) (r : Int) (w : World) (hlo : -2147483648 ≤ r) (hhi : r ≤ 2147483647) (htab : Lib.TabIs Tryd.prog w "unicode.properties" .u8 Lib.propertiesTab) (hV : RVar 2 T w) (hok : RTabOk T) :
    Calls Tryd.prog 43 #[.int .i32 r] w fun e w' => e = .returned (.bool (if latin1 r then isLetterL r else exclGo T r)) ∧ Below w.heap.size w w' := Any.unicode_IsLetter_any Tryd.lays200 (by kernel_rfl) T r w hlo hhi htab hV hok
open Go.RowKit Go.Lib in
theorem Tryd.unicode_IsDigit_any (T : RTab) (r : Int) (w : World) (hlo : -2147483648 ≤ r) (hhi : r ≤ 2147483647) (hV : RVar 3 T w) (hok : RTabOk T) :
    Calls Tryd.prog 44 #[.int .i32 r] w fun e w' => e = .returned (.bool (if r ≤ 255 then isDigitL r else exclGo T r)) ∧ Below w.heap.size w w' := Any.unicode_IsDigit_any Tryd.lays198 T r w hlo hhi hV hok
open Go.RowKit Go.Lib in
theorem Tryd.strings_indexFunc_grows (g : Nat) (lb : Array Value) (eg : ∀ args w, (callFunc g args).run Tryd.prog w = .ok (.enter g args) w) (p : Nat → Bool) (truth : Bool) (s : ByteArray) (w : World) (hp : PredGrows Tryd.prog g lb p w) :
    Calls Tryd.prog 42 #[.string s, .func (.func g) #[] lb, .bool truth] w fun e w' => e = .returned (.int .i64 (Lib.idxFunc p truth s)) ∧ Below w.heap.size w w' := Any.strings_indexFunc_grows Tryd.lays315 g lb eg p truth s w hp
open Go.RowKit Go.Lib in
theorem Tryd.strings_IndexFunc_grows (g : Nat) (lb : Array Value) (eg : ∀ args w, (callFunc g args).run Tryd.prog w = .ok (.enter g args) w) (p : Nat → Bool) (s : ByteArray) (w : World) (hp : PredGrows Tryd.prog g lb p w) :
    Calls Tryd.prog 36 #[.string s, .func (.func g) #[] lb] w fun e w' => e = .returned (.int .i64 (Lib.idxFunc p true s)) ∧ Below w.heap.size w w' := Any.strings_IndexFunc_grows Tryd.laysGw15 g lb eg p s w hp
open Go.RowKit Go.Lib in
theorem Tryd.unicode_IsLetter_all (r : Int) (w : World) (hlo : -2147483648 ≤ r) (hhi : r ≤ 2147483647) (htab : Lib.TabIs Tryd.prog w "unicode.properties" .u8 Lib.propertiesTab) (hV : RVar 2 letterT w) :
    Calls Tryd.prog 43 #[.int .i32 r] w fun e w' => e = .returned (.bool (isLetterU r)) ∧ Below w.heap.size w w' := Any.unicode_IsLetter_all Tryd.lays200 (by kernel_rfl) r w hlo hhi htab hV
open Go.RowKit Go.Lib in
theorem Tryd.unicode_IsDigit_all (r : Int) (w : World) (hlo : -2147483648 ≤ r) (hhi : r ≤ 2147483647) (hV : RVar 3 digitT w) :
    Calls Tryd.prog 44 #[.int .i32 r] w fun e w' => e = .returned (.bool (isDigitU r)) ∧ Below w.heap.size w w' := Any.unicode_IsDigit_all Tryd.lays198 r w hlo hhi hV
end Go.Proofs
