/- The contracts of Go's library at this seat's translation, laid by the shelf's own commands in plain words; no condition of our own. -/
import Derived.Shelf.Strings.Builder1
import Derived.Shelf.Strings.Builder2
import Derived.Shelf.Strings.OnBuilder
import Derived.Shelf.Small.Bits
import Derived.Shelf.Strings.BuilderF
import Derived.Shelf.Strings.BuilderK
import Derived.Shelf.Strings.Builder2Cap
import Derived.Shelf.Strconv.Atoi
import Derived.Shelf.Strconv.Itoa0
import Derived.Shelf.Strconv.Itoa1
import Derived.Shelf.LaysM
import Derived.Shelf.Strconv.Itoa2
import Derived.Shelf.Strconv.Itoa3
import Derived.Shelf.Strconv.AtoiErrFast
import Derived.Shelf.Strconv.ParseIntEmpty
import Derived.Shelf.Strconv.AtoiFail
import Derived.Shelf.Strconv.Clone
import Derived.Shelf.Strconv.SyntaxError
import Derived.Shelf.LaysC
import Derived.Shelf.Strconv.ToError
import Derived.Shelf.Strconv.AtoiErr
import Derived.Shelf.Strconv.ErrVar
import Derived.Shelf.Strconv.Lower
import Derived.Shelf.Strconv.ParseUint10
import Derived.Shelf.Strconv.ParseUint10Empty
import Derived.Shelf.Strconv.ParseUint10Any
import Derived.Shelf.Strconv.ParseInt10
import Derived.Shelf.Strconv.AtoiLong
import Derived.Shelf.Strconv.AtoiInnerAll
import Derived.Shelf.Strconv.RangeError
import Derived.Shelf.Strconv.ToErrorRange
import Derived.Shelf.Strconv.AtoiAll
import Derived.Shelf.Strconv.ErrVarAll
import Derived.Shelf.Strconv.ParseUintEmpty
import Derived.Shelf.Strconv.ParseUint10b64
import Derived.Shelf.Strconv.ParseUint10b32
import Derived.Shelf.Strconv.ParseUint10b16
import Derived.Shelf.Strconv.ParseUint10b8
import Derived.Shelf.Strconv.ParseUint10At
import Derived.Shelf.Strconv.ParseInt10At64
import Derived.Shelf.Strconv.ParseInt10At32
import Derived.Shelf.Strconv.ParseInt10At16
import Derived.Shelf.Strconv.ParseInt10At8
import Derived.Shelf.Strconv.ParseInt10All
import Derived.Shelf.Sort.Plain
import Derived.Shelf.Unicode.Latin
import Derived.Shelf.Unicode.Decode
import Derived.Shelf.Unicode.DecodeSlow
import Derived.Shelf.Unicode.DecodeAny
import Derived.Shelf.Unicode.Is16White
import Derived.Shelf.Unicode.IsSpaceAny
import Derived.Shelf.Unicode.Is16WhiteD
import Derived.Shelf.Unicode.IsSpaceAnyD
import Derived.Shelf.Unicode.Is16Any
import Derived.Shelf.Unicode.Is32Any
import Derived.Shelf.Unicode.ExclAny
import Derived.Shelf.Strings.BuilderCap
import Derived.Shelf.Slices.In.SortNone
import Derived.Shelf.Slices.In.SortNone2
import Derived.Shelf.Unicode.ValidAny
import Derived.Test.YtmmnljepbnifnaaDoorProg
namespace Go.Proofs
open Go.Shelf
def Tryd.lays169_ren : Go.Shelf.Ren := ⟨fun | 169 => 20 | n => n, fun | 70 => 49 | 9 => 9 | 0 => 0 | 72 => 51 | 37 => 32 | 127 => 73 | 3 => 3 | 5 => 5 | n => n, fun | n => n⟩
theorem Tryd.lays169 : Go.Proofs.Lays.n169 Tryd.prog Tryd.lays169_ren := {
  mixed := by kernel_rfl
  f169 := Tryd.func20.trans (congrArg some (by kernel_rfl))
  t0 := Tryd.underlying0
  a0 := Tryd.isAgg0
  z0 := Tryd.sizeOf0
  v0 := Tryd.zeroValue0
  t3 := Tryd.underlying3
  a3 := Tryd.isAgg3
  z3 := Tryd.sizeOf3
  v3 := Tryd.zeroValue3
  t9 := Tryd.underlying9
  a9 := Tryd.isAgg9
  z9 := Tryd.sizeOf9
  v9 := Tryd.zeroValue9
  t37 := Tryd.underlying32
  a37 := Tryd.isAgg32
  z37 := Tryd.sizeOf32
  v37 := Tryd.zeroValue32
  t70 := Tryd.underlying49
  a70 := Tryd.isAgg49
  z70 := Tryd.sizeOf49
  v70 := Tryd.zeroValue49
  t72 := Tryd.underlying51
  a72 := Tryd.isAgg51
  z72 := Tryd.sizeOf51
  v72 := Tryd.zeroValue51
  t127 := Tryd.underlying73
  a127 := Tryd.isAgg73
  z127 := Tryd.sizeOf73
  v127 := Tryd.zeroValue73 }
theorem Tryd.Builder_Extra_169 : Builder.Extra Tryd.prog Tryd.lays169_ren := {
  sizeBuilder := by kernel_rfl
  liesBuilder := by kernel_rfl
  t5 := Tryd.underlying5
  a5 := Tryd.isAgg5
  z5 := Tryd.sizeOf5
  v5 := Tryd.zeroValue5
  infoByte := by kernel_rfl
  cellsByte := by kernel_rfl
  sizeByte := by kernel_rfl
  neB5 := by decide }
open Go.RowKit in
theorem Tryd.Builder_String (B b : Nat) (l : List UInt8) (w : World) (h : Lib.IsBuilder 51 5 B b (Lib.byteCells l) w) (h0 : l ≠ []) :
    Calls Tryd.prog 20 #[.pointer (some ⟨b, 0, none⟩)] w fun e w' => e = .returned (.string ⟨l.toArray⟩) ∧ Below B w w' := Any.Builder_String Tryd.lays169 Tryd.Builder_Extra_169 B b l w h h0
open Go.RowKit in
theorem Tryd.Builder_String_empty (B b : Nat) (w : World) (h : Lib.IsBuilder 51 5 B b [] w) (hBw : B ≤ w.heap.size) :
    Calls Tryd.prog 20 #[.pointer (some ⟨b, 0, none⟩)] w fun e w' => e = .returned (.string ⟨#[]⟩) ∧ Below B w w' := Any.Builder_String_empty Tryd.lays169 Tryd.Builder_Extra_169 B b w h hBw
open Go.RowKit in
theorem Tryd.Builder_String_any (B b : Nat) (l : List UInt8) (w : World) (h : Lib.IsBuilder 51 5 B b (Lib.byteCells l) w) (hBw : B ≤ w.heap.size) :
    Calls Tryd.prog 20 #[.pointer (some ⟨b, 0, none⟩)] w fun e w' => e = .returned (.string ⟨l.toArray⟩) ∧ Below B w w' := Any.Builder_String_any Tryd.lays169 Tryd.Builder_Extra_169 B b l w h hBw
def Tryd.lays241_ren : Go.Shelf.Ren := ⟨fun | 241 => 63 | 277 => 87 | n => n, fun | 70 => 49 | 3 => 3 | 0 => 0 | 72 => 51 | 37 => 32 | 5 => 5 | n => n, fun | n => n⟩
theorem Tryd.lays241 : Go.Proofs.Lays.n241 Tryd.prog Tryd.lays241_ren := {
  mixed := by kernel_rfl
  f241 := Tryd.func63.trans (congrArg some (by kernel_rfl))
  f277 := Tryd.func87.trans (congrArg some (by kernel_rfl))
  t0 := Tryd.underlying0
  a0 := Tryd.isAgg0
  z0 := Tryd.sizeOf0
  v0 := Tryd.zeroValue0
  t3 := Tryd.underlying3
  a3 := Tryd.isAgg3
  z3 := Tryd.sizeOf3
  v3 := Tryd.zeroValue3
  t37 := Tryd.underlying32
  a37 := Tryd.isAgg32
  z37 := Tryd.sizeOf32
  v37 := Tryd.zeroValue32
  t70 := Tryd.underlying49
  a70 := Tryd.isAgg49
  z70 := Tryd.sizeOf49
  v70 := Tryd.zeroValue49
  t72 := Tryd.underlying51
  a72 := Tryd.isAgg51
  z72 := Tryd.sizeOf51
  v72 := Tryd.zeroValue51 }
theorem Tryd.Builder_Extra_241 : Builder.Extra Tryd.prog Tryd.lays241_ren := {
  sizeBuilder := by kernel_rfl
  liesBuilder := by kernel_rfl
  t5 := Tryd.underlying5
  a5 := Tryd.isAgg5
  z5 := Tryd.sizeOf5
  v5 := Tryd.zeroValue5
  infoByte := by kernel_rfl
  cellsByte := by kernel_rfl
  sizeByte := by kernel_rfl
  neB5 := by decide }
open Go.RowKit in
theorem Tryd.Builder_grow_fresh (B b n : Nat) (w : World) (hB : B ≤ b) (hbk : w.heap[b]? = some (.cells #[.pointer (some ⟨b, 0, none⟩), .slice none 0 0] 51 (0, 0))) (hBw : B ≤ w.heap.size) (hn : n ≤ 281474976710656) :
    Calls Tryd.prog 63 #[.pointer (some ⟨b, 0, none⟩), .int .i64 n] w fun e w' => e = .returned (.tuple #[]) ∧ (Lib.BuilderAt 51 5 B b (.pointer (some ⟨b, 0, none⟩)) [] w' ∧ Below B w w') := Any.Builder_grow_fresh Tryd.lays241 Tryd.Builder_Extra_241 B b n w hB hbk hBw hn
def Tryd.lays165_ren : Go.Shelf.Ren := ⟨fun | 165 => 46 | 240 => 62 | 241 => 63 | 276 => 86 | 277 => 87 | n => n, fun | 70 => 49 | 3 => 3 | 0 => 0 | 4 => 4 | 9 => 9 | 20 => 20 | 72 => 51 | 37 => 32 | 164 => 133 | 5 => 5 | n => n, fun | n => n⟩
theorem Tryd.lays165 : Go.Proofs.Lays.n165 Tryd.prog Tryd.lays165_ren := {
  mixed := by kernel_rfl
  f165 := Tryd.func46.trans (congrArg some (by kernel_rfl))
  f240 := Tryd.func62.trans (congrArg some (by kernel_rfl))
  f241 := Tryd.func63.trans (congrArg some (by kernel_rfl))
  f276 := Tryd.func86.trans (congrArg some (by kernel_rfl))
  f277 := Tryd.func87.trans (congrArg some (by kernel_rfl))
  t0 := Tryd.underlying0
  a0 := Tryd.isAgg0
  z0 := Tryd.sizeOf0
  v0 := Tryd.zeroValue0
  t3 := Tryd.underlying3
  a3 := Tryd.isAgg3
  z3 := Tryd.sizeOf3
  v3 := Tryd.zeroValue3
  t4 := Tryd.underlying4
  a4 := Tryd.isAgg4
  z4 := Tryd.sizeOf4
  v4 := Tryd.zeroValue4
  t9 := Tryd.underlying9
  a9 := Tryd.isAgg9
  z9 := Tryd.sizeOf9
  v9 := Tryd.zeroValue9
  t20 := Tryd.underlying20
  a20 := Tryd.isAgg20
  z20 := Tryd.sizeOf20
  v20 := Tryd.zeroValue20
  t37 := Tryd.underlying32
  a37 := Tryd.isAgg32
  z37 := Tryd.sizeOf32
  v37 := Tryd.zeroValue32
  t70 := Tryd.underlying49
  a70 := Tryd.isAgg49
  z70 := Tryd.sizeOf49
  v70 := Tryd.zeroValue49
  t72 := Tryd.underlying51
  a72 := Tryd.isAgg51
  z72 := Tryd.sizeOf51
  v72 := Tryd.zeroValue51
  t164 := Tryd.underlying133
  a164 := Tryd.isAgg133
  z164 := Tryd.sizeOf133
  v164 := Tryd.zeroValue133 }
theorem Tryd.Builder_Extra_165 : Builder.Extra Tryd.prog Tryd.lays165_ren := {
  sizeBuilder := by kernel_rfl
  liesBuilder := by kernel_rfl
  t5 := Tryd.underlying5
  a5 := Tryd.isAgg5
  z5 := Tryd.sizeOf5
  v5 := Tryd.zeroValue5
  infoByte := by kernel_rfl
  cellsByte := by kernel_rfl
  sizeByte := by kernel_rfl
  neB5 := by decide }
open Go.RowKit in
theorem Tryd.Builder_Grow_fresh (B b n : Nat) (w : World) (hB : B ≤ b) (hbk : w.heap[b]? = some (.cells #[.pointer none, .slice none 0 0] 51 (0, 0))) (hBw : B ≤ w.heap.size) (hn : n ≤ 281474976710656) :
    Calls Tryd.prog 46 #[.pointer (some ⟨b, 0, none⟩), .int .i64 n] w fun e w' => e = .returned (.tuple #[]) ∧ (Lib.BuilderAt 51 5 B b (.pointer (some ⟨b, 0, none⟩)) [] w' ∧ Below B w w') := Any.Builder_Grow_fresh Tryd.lays165 Tryd.Builder_Extra_165 B b n w hB hbk hBw hn
def Tryd.lays156_ren : Go.Shelf.Ren := ⟨fun | 156 => 36 | 165 => 46 | 166 => 47 | 169 => 20 | 240 => 62 | 241 => 63 | 276 => 86 | 277 => 87 | n => n, fun | 31 => 25 | 9 => 9 | 3 => 3 | 4 => 4 | 0 => 0 | 20 => 20 | 72 => 51 | 76 => 54 | 70 => 49 | 37 => 32 | 75 => 53 | 127 => 73 | 164 => 133 | 5 => 5 | 80 => 42 | n => n, fun | n => n⟩
theorem Tryd.lays156 : Go.Proofs.Lays.n156 Tryd.prog Tryd.lays156_ren := {
  mixed := by kernel_rfl
  f156 := Tryd.func36.trans (congrArg some (by kernel_rfl))
  f165 := Tryd.func46.trans (congrArg some (by kernel_rfl))
  f166 := Tryd.func47.trans (congrArg some (by kernel_rfl))
  f169 := Tryd.func20.trans (congrArg some (by kernel_rfl))
  f240 := Tryd.func62.trans (congrArg some (by kernel_rfl))
  f241 := Tryd.func63.trans (congrArg some (by kernel_rfl))
  f276 := Tryd.func86.trans (congrArg some (by kernel_rfl))
  f277 := Tryd.func87.trans (congrArg some (by kernel_rfl))
  t0 := Tryd.underlying0
  a0 := Tryd.isAgg0
  z0 := Tryd.sizeOf0
  v0 := Tryd.zeroValue0
  t3 := Tryd.underlying3
  a3 := Tryd.isAgg3
  z3 := Tryd.sizeOf3
  v3 := Tryd.zeroValue3
  t4 := Tryd.underlying4
  a4 := Tryd.isAgg4
  z4 := Tryd.sizeOf4
  v4 := Tryd.zeroValue4
  t9 := Tryd.underlying9
  a9 := Tryd.isAgg9
  z9 := Tryd.sizeOf9
  v9 := Tryd.zeroValue9
  t20 := Tryd.underlying20
  a20 := Tryd.isAgg20
  z20 := Tryd.sizeOf20
  v20 := Tryd.zeroValue20
  t31 := Tryd.underlying25
  a31 := Tryd.isAgg25
  z31 := Tryd.sizeOf25
  v31 := Tryd.zeroValue25
  t37 := Tryd.underlying32
  a37 := Tryd.isAgg32
  z37 := Tryd.sizeOf32
  v37 := Tryd.zeroValue32
  t70 := Tryd.underlying49
  a70 := Tryd.isAgg49
  z70 := Tryd.sizeOf49
  v70 := Tryd.zeroValue49
  t72 := Tryd.underlying51
  a72 := Tryd.isAgg51
  z72 := Tryd.sizeOf51
  v72 := Tryd.zeroValue51
  t75 := Tryd.underlying53
  a75 := Tryd.isAgg53
  z75 := Tryd.sizeOf53
  v75 := Tryd.zeroValue53
  t76 := Tryd.underlying54
  a76 := Tryd.isAgg54
  z76 := Tryd.sizeOf54
  v76 := Tryd.zeroValue54
  t127 := Tryd.underlying73
  a127 := Tryd.isAgg73
  z127 := Tryd.sizeOf73
  v127 := Tryd.zeroValue73
  t164 := Tryd.underlying133
  a164 := Tryd.isAgg133
  z164 := Tryd.sizeOf133
  v164 := Tryd.zeroValue133 }
theorem Tryd.Builder_Extra_156 : Builder.Extra Tryd.prog Tryd.lays156_ren := {
  sizeBuilder := by kernel_rfl
  liesBuilder := by kernel_rfl
  t5 := Tryd.underlying5
  a5 := Tryd.isAgg5
  z5 := Tryd.sizeOf5
  v5 := Tryd.zeroValue5
  infoByte := by kernel_rfl
  cellsByte := by kernel_rfl
  sizeByte := by kernel_rfl
  neB5 := by decide }
open Go.RowKit in
theorem Tryd.strings_Join_none (a : Option Addr) (c : Nat) (sep : ByteArray) (w : World) :
    Calls Tryd.prog 36 #[.slice a 0 c, .string sep] w fun e w' => e = .returned (.string ⟨#[]⟩) ∧ w' = w := Any.strings_Join_none Tryd.lays156 Tryd.Builder_Extra_156 a c sep w
open Go.RowKit in
theorem Tryd.strings_Join (bk o c : Nat) (xs : List ByteArray) (sep : ByteArray) (w : World) (hcells : ∀ (j : Nat) x, xs[j]? = some x → w.cell? ⟨bk, o + j, none⟩ = some (.string x)) (hbk : bk < w.heap.size) (hN : xs.length ≤ 140737488355328) (hcap : xs.length ≤ c) (hlen : (Lib.join (xs.map (·.data.toList)) sep.data.toList).length ≤ 140737488355328) :
    Calls Tryd.prog 36 #[.slice (some ⟨bk, o, none⟩) xs.length c, .string sep] w fun e w' => e = .returned (.string ⟨(Lib.join (xs.map (·.data.toList)) sep.data.toList).toArray⟩) ∧ Below w.heap.size w w' := Any.strings_Join Tryd.lays156 Tryd.Builder_Extra_156 bk o c xs sep w hcells hbk hN hcap hlen
def Tryd.lays128_ren : Go.Shelf.Ren := ⟨fun | 128 => 84 | n => n, fun | 51 => 111 | 3 => 3 | 4 => 4 | 46 => 56 | 5 => 5 | 9 => 9 | n => n, fun | n => n⟩
theorem Tryd.lays128 : Go.Proofs.Lays.n128 Tryd.prog Tryd.lays128_ren := {
  mixed := by kernel_rfl
  f128 := Tryd.func84.trans (congrArg some (by kernel_rfl))
  t3 := Tryd.underlying3
  a3 := Tryd.isAgg3
  z3 := Tryd.sizeOf3
  v3 := Tryd.zeroValue3
  t4 := Tryd.underlying4
  a4 := Tryd.isAgg4
  z4 := Tryd.sizeOf4
  v4 := Tryd.zeroValue4
  t5 := Tryd.underlying5
  a5 := Tryd.isAgg5
  z5 := Tryd.sizeOf5
  v5 := Tryd.zeroValue5
  t9 := Tryd.underlying9
  a9 := Tryd.isAgg9
  z9 := Tryd.sizeOf9
  v9 := Tryd.zeroValue9
  t46 := Tryd.underlying56
  a46 := Tryd.isAgg56
  z46 := Tryd.sizeOf56
  v46 := Tryd.zeroValue56
  t51 := Tryd.underlying111
  a51 := Tryd.isAgg111
  z51 := Tryd.sizeOf111
  v51 := Tryd.zeroValue111 }
theorem Tryd.bits_Len32 (x : Int) (w : World) (h0 : 0 ≤ x) (h1 : x ≤ 4294967295) :
    Calls Tryd.prog 84 #[.int .u32 x] w fun e w' => e = .returned (.int .i64 (Lib.bitLen x.toNat)) ∧ w' = w := Any.bits_Len32 Tryd.lays128 x w h0 h1
def Tryd.lays125_ren : Go.Shelf.Ren := ⟨fun | 125 => 61 | 128 => 84 | 129 => 85 | n => n, fun | 46 => 56 | 3 => 3 | 51 => 111 | 53 => 94 | 4 => 4 | 5 => 5 | 9 => 9 | n => n, fun | n => n⟩
theorem Tryd.lays125 : Go.Proofs.Lays.n125 Tryd.prog Tryd.lays125_ren := {
  mixed := by kernel_rfl
  f125 := Tryd.func61.trans (congrArg some (by kernel_rfl))
  f128 := Tryd.func84.trans (congrArg some (by kernel_rfl))
  f129 := Tryd.func85.trans (congrArg some (by kernel_rfl))
  t3 := Tryd.underlying3
  a3 := Tryd.isAgg3
  z3 := Tryd.sizeOf3
  v3 := Tryd.zeroValue3
  t4 := Tryd.underlying4
  a4 := Tryd.isAgg4
  z4 := Tryd.sizeOf4
  v4 := Tryd.zeroValue4
  t5 := Tryd.underlying5
  a5 := Tryd.isAgg5
  z5 := Tryd.sizeOf5
  v5 := Tryd.zeroValue5
  t9 := Tryd.underlying9
  a9 := Tryd.isAgg9
  z9 := Tryd.sizeOf9
  v9 := Tryd.zeroValue9
  t46 := Tryd.underlying56
  a46 := Tryd.isAgg56
  z46 := Tryd.sizeOf56
  v46 := Tryd.zeroValue56
  t51 := Tryd.underlying111
  a51 := Tryd.isAgg111
  z51 := Tryd.sizeOf111
  v51 := Tryd.zeroValue111
  t53 := Tryd.underlying94
  a53 := Tryd.isAgg94
  z53 := Tryd.sizeOf94
  v53 := Tryd.zeroValue94 }
theorem Tryd.bits_Len (x : Int) (w : World) (h0 : 0 ≤ x) (h1 : x ≤ 18446744073709551615) :
    Calls Tryd.prog 61 #[.int .u64 x] w fun e w' => e = .returned (.int .i64 (Lib.bitLen x.toNat)) ∧ w' = w := Any.bits_Len Tryd.lays125 x w h0 h1
open Go.RowKit in
theorem Tryd.Builder_String_f (B b : Nat) (l : List UInt8) (w : World) (h : Lib.IsBuilderF 51 5 B b (Lib.byteCells l) w) (h0 : l ≠ []) :
    Calls Tryd.prog 20 #[.pointer (some ⟨b, 0, none⟩)] w fun e w' => e = .returned (.string ⟨l.toArray⟩) ∧ (Lib.IsBuilderF 51 5 B b (Lib.byteCells l) w' ∧ Below B w w') := Any.Builder_String_f Tryd.lays169 Tryd.Builder_Extra_169 B b l w h h0
open Go.RowKit in
theorem Tryd.Builder_String_empty_f (B b : Nat) (w : World) (h : Lib.IsBuilderF 51 5 B b [] w) (hBw : B ≤ w.heap.size) :
    Calls Tryd.prog 20 #[.pointer (some ⟨b, 0, none⟩)] w fun e w' => e = .returned (.string ⟨#[]⟩) ∧ (Lib.IsBuilderF 51 5 B b [] w' ∧ Below B w w') := Any.Builder_String_empty_f Tryd.lays169 Tryd.Builder_Extra_169 B b w h hBw
open Go.RowKit in
theorem Tryd.Builder_String_any_f (B b : Nat) (l : List UInt8) (w : World) (h : Lib.IsBuilderF 51 5 B b (Lib.byteCells l) w) (hBw : B ≤ w.heap.size) :
    Calls Tryd.prog 20 #[.pointer (some ⟨b, 0, none⟩)] w fun e w' => e = .returned (.string ⟨l.toArray⟩) ∧ (Lib.IsBuilderF 51 5 B b (Lib.byteCells l) w' ∧ Below B w w') := Any.Builder_String_any_f Tryd.lays169 Tryd.Builder_Extra_169 B b l w h hBw
open Go.RowKit in
theorem Tryd.Builder_String_k (B b : Nat) (l : List UInt8) (w : World) (h : Lib.IsBuilderF 51 5 B b (Lib.byteCells l) w) (h0 : l ≠ []) :
    Calls Tryd.prog 20 #[.pointer (some ⟨b, 0, none⟩)] w fun e w' => e = .returned (.string ⟨l.toArray⟩) ∧ (Lib.IsBuilderF 51 5 B b (Lib.byteCells l) w' ∧ Below B w w' ∧ Lib.OthersKept 5 (some b) w w') := Any.Builder_String_k Tryd.lays169 Tryd.Builder_Extra_169 B b l w h h0
open Go.RowKit in
theorem Tryd.Builder_String_empty_k (B b : Nat) (w : World) (h : Lib.IsBuilderF 51 5 B b [] w) (hBw : B ≤ w.heap.size) :
    Calls Tryd.prog 20 #[.pointer (some ⟨b, 0, none⟩)] w fun e w' => e = .returned (.string ⟨#[]⟩) ∧ (Lib.IsBuilderF 51 5 B b [] w' ∧ Below B w w' ∧ Lib.OthersKept 5 (some b) w w') := Any.Builder_String_empty_k Tryd.lays169 Tryd.Builder_Extra_169 B b w h hBw
open Go.RowKit in
theorem Tryd.Builder_String_any_k (B b : Nat) (l : List UInt8) (w : World) (h : Lib.IsBuilderF 51 5 B b (Lib.byteCells l) w) (hBw : B ≤ w.heap.size) :
    Calls Tryd.prog 20 #[.pointer (some ⟨b, 0, none⟩)] w fun e w' => e = .returned (.string ⟨l.toArray⟩) ∧ (Lib.IsBuilderF 51 5 B b (Lib.byteCells l) w' ∧ Below B w w' ∧ Lib.OthersKept 5 (some b) w w') := Any.Builder_String_any_k Tryd.lays169 Tryd.Builder_Extra_169 B b l w h hBw
open Go.RowKit in
theorem Tryd.Builder_grow_fresh_cap (B b n : Nat) (w : World) (hB : B ≤ b) (hbk : w.heap[b]? = some (.cells #[.pointer (some ⟨b, 0, none⟩), .slice none 0 0] 51 (0, 0))) (hBw : B ≤ w.heap.size) (hn : n ≤ 281474976710656) :
    Calls Tryd.prog 63 #[.pointer (some ⟨b, 0, none⟩), .int .i64 n] w fun e w' => e = .returned (.tuple #[]) ∧ (Lib.BuilderAt 51 5 B b (.pointer (some ⟨b, 0, none⟩)) [] w' ∧ Below B w w') ∧ ∃ p cap, w'.cell? ⟨b, 1, none⟩ = some (.slice p 0 cap) ∧ n ≤ cap := Any.Builder_grow_fresh_cap Tryd.lays241 Tryd.Builder_Extra_241 B b n w hB hbk hBw hn
open Go.RowKit in
theorem Tryd.Builder_Grow_fresh_cap (B b n : Nat) (w : World) (hB : B ≤ b) (hbk : w.heap[b]? = some (.cells #[.pointer none, .slice none 0 0] 51 (0, 0))) (hBw : B ≤ w.heap.size) (hn : n ≤ 281474976710656) :
    Calls Tryd.prog 46 #[.pointer (some ⟨b, 0, none⟩), .int .i64 n] w fun e w' => e = .returned (.tuple #[]) ∧ (Lib.BuilderAt 51 5 B b (.pointer (some ⟨b, 0, none⟩)) [] w' ∧ Below B w w') ∧ ∃ p cap, w'.cell? ⟨b, 1, none⟩ = some (.slice p 0 cap) ∧ n ≤ cap := Any.Builder_Grow_fresh_cap Tryd.lays165 Tryd.Builder_Extra_165 B b n w hB hbk hBw hn
def Tryd.lays244_ren : Go.Shelf.Ren := ⟨fun | 244 => 41 | 247 => 53 | 287 => 69 | 321 => 91 | 322 => 92 | n => n, fun | 9 => 9 | 3 => 3 | 75 => 53 | 4 => 4 | 5 => 5 | 167 => 100 | 37 => 32 | 0 => 0 | 85 => 101 | 2 => 2 | 53 => 94 | 175 => 115 | 46 => 56 | 21 => 21 | 80 => 42 | n => n, fun | n => n⟩
theorem Tryd.lays244 : Go.Proofs.Lays.n244 Tryd.prog Tryd.lays244_ren := {
  mixed := by kernel_rfl
  f244 := Tryd.func41.trans (congrArg some (by kernel_rfl))
  f247 := Tryd.func53.trans (congrArg some (by kernel_rfl))
  f287 := Tryd.func69.trans (congrArg some (by kernel_rfl))
  f321 := Tryd.func91.trans (congrArg some (by kernel_rfl))
  f322 := Tryd.func92.trans (congrArg some (by kernel_rfl))
  t0 := Tryd.underlying0
  a0 := Tryd.isAgg0
  z0 := Tryd.sizeOf0
  v0 := Tryd.zeroValue0
  t2 := Tryd.underlying2
  a2 := Tryd.isAgg2
  z2 := Tryd.sizeOf2
  v2 := Tryd.zeroValue2
  t3 := Tryd.underlying3
  a3 := Tryd.isAgg3
  z3 := Tryd.sizeOf3
  v3 := Tryd.zeroValue3
  t4 := Tryd.underlying4
  a4 := Tryd.isAgg4
  z4 := Tryd.sizeOf4
  v4 := Tryd.zeroValue4
  t5 := Tryd.underlying5
  a5 := Tryd.isAgg5
  z5 := Tryd.sizeOf5
  v5 := Tryd.zeroValue5
  t9 := Tryd.underlying9
  a9 := Tryd.isAgg9
  z9 := Tryd.sizeOf9
  v9 := Tryd.zeroValue9
  t21 := Tryd.underlying21
  a21 := Tryd.isAgg21
  z21 := Tryd.sizeOf21
  v21 := Tryd.zeroValue21
  t37 := Tryd.underlying32
  a37 := Tryd.isAgg32
  z37 := Tryd.sizeOf32
  v37 := Tryd.zeroValue32
  t46 := Tryd.underlying56
  a46 := Tryd.isAgg56
  z46 := Tryd.sizeOf56
  v46 := Tryd.zeroValue56
  t53 := Tryd.underlying94
  a53 := Tryd.isAgg94
  z53 := Tryd.sizeOf94
  v53 := Tryd.zeroValue94
  t75 := Tryd.underlying53
  a75 := Tryd.isAgg53
  z75 := Tryd.sizeOf53
  v75 := Tryd.zeroValue53
  t85 := Tryd.underlying101
  a85 := Tryd.isAgg101
  z85 := Tryd.sizeOf101
  v85 := Tryd.zeroValue101
  t167 := Tryd.underlying100
  a167 := Tryd.isAgg100
  z167 := Tryd.sizeOf100
  v167 := Tryd.zeroValue100
  t175 := Tryd.underlying115
  a175 := Tryd.isAgg115
  z175 := Tryd.sizeOf115
  v175 := Tryd.zeroValue115 }
open Go.RowKit in
theorem Tryd.internal_strconv_Atoi (s : ByteArray) (n : Int) (hl : s.size ≤ 18) (h : Lib.atoi s.data.toList = some n) (w : World) :
    Calls Tryd.prog 41 #[.string s] w fun e w' => e = .returned (.tuple #[.int .i64 n, .nilIface]) ∧ ∃ t, w' = Lib.bytesWorld w 5 t := Any.internal_strconv_Atoi Tryd.lays244 s n hl h w
def Tryd.lays172_ren : Go.Shelf.Ren := ⟨fun | 172 => 32 | 244 => 41 | 245 => 42 | 247 => 53 | 279 => 54 | 280 => 55 | 281 => 56 | 282 => 57 | 287 => 69 | 316 => 70 | 171 => 33 | 205 => 64 | 321 => 91 | 322 => 92 | 243 => 43 | 246 => 58 | 283 => 71 | 284 => 72 | 285 => 73 | 286 => 74 | 129 => 85 | 317 => 93 | 318 => 94 | 319 => 95 | 320 => 96 | 337 => 103 | 338 => 104 | n => n, fun | 9 => 9 | 3 => 3 | 75 => 53 | 76 => 54 | 4 => 4 | 5 => 5 | 167 => 100 | 37 => 32 | 0 => 0 | 85 => 101 | 2 => 2 | 168 => 103 | 53 => 94 | 175 => 115 | 46 => 56 | 210 => 118 | 127 => 73 | 145 => 138 | 143 => 136 | 21 => 21 | 171 => 119 | 173 => 122 | 212 => 154 | 51 => 111 | 20 => 20 | 213 => 155 | 232 => 168 | 233 => 169 | 80 => 42 | n => n, fun | 15 => 3 | 16 => 4 | 17 => 5 | 18 => 7 | 19 => 8 | n => n⟩
theorem Tryd.lays172 : Go.Proofs.Lays.n172 Tryd.prog Tryd.lays172_ren := {
  mixed := by kernel_rfl
  f129 := Tryd.func85.trans (congrArg some (by kernel_rfl))
  f171 := Tryd.func33.trans (congrArg some (by kernel_rfl))
  f172 := Tryd.func32.trans (congrArg some (by kernel_rfl))
  f205 := Tryd.func64.trans (congrArg some (by kernel_rfl))
  f243 := Tryd.func43.trans (congrArg some (by kernel_rfl))
  f244 := Tryd.func41.trans (congrArg some (by kernel_rfl))
  f245 := Tryd.func42.trans (congrArg some (by kernel_rfl))
  f246 := Tryd.func58.trans (congrArg some (by kernel_rfl))
  f247 := Tryd.func53.trans (congrArg some (by kernel_rfl))
  f279 := Tryd.func54.trans (congrArg some (by kernel_rfl))
  f280 := Tryd.func55.trans (congrArg some (by kernel_rfl))
  f281 := Tryd.func56.trans (congrArg some (by kernel_rfl))
  f282 := Tryd.func57.trans (congrArg some (by kernel_rfl))
  f283 := Tryd.func71.trans (congrArg some (by kernel_rfl))
  f284 := Tryd.func72.trans (congrArg some (by kernel_rfl))
  f285 := Tryd.func73.trans (congrArg some (by kernel_rfl))
  f286 := Tryd.func74.trans (congrArg some (by kernel_rfl))
  f287 := Tryd.func69.trans (congrArg some (by kernel_rfl))
  f316 := Tryd.func70.trans (congrArg some (by kernel_rfl))
  f317 := Tryd.func93.trans (congrArg some (by kernel_rfl))
  f318 := Tryd.func94.trans (congrArg some (by kernel_rfl))
  f319 := Tryd.func95.trans (congrArg some (by kernel_rfl))
  f320 := Tryd.func96.trans (congrArg some (by kernel_rfl))
  f321 := Tryd.func91.trans (congrArg some (by kernel_rfl))
  f322 := Tryd.func92.trans (congrArg some (by kernel_rfl))
  f337 := Tryd.func103.trans (congrArg some (by kernel_rfl))
  f338 := Tryd.func104.trans (congrArg some (by kernel_rfl))
  t0 := Tryd.underlying0
  a0 := Tryd.isAgg0
  z0 := Tryd.sizeOf0
  v0 := Tryd.zeroValue0
  t2 := Tryd.underlying2
  a2 := Tryd.isAgg2
  z2 := Tryd.sizeOf2
  v2 := Tryd.zeroValue2
  t3 := Tryd.underlying3
  a3 := Tryd.isAgg3
  z3 := Tryd.sizeOf3
  v3 := Tryd.zeroValue3
  t4 := Tryd.underlying4
  a4 := Tryd.isAgg4
  z4 := Tryd.sizeOf4
  v4 := Tryd.zeroValue4
  t5 := Tryd.underlying5
  a5 := Tryd.isAgg5
  z5 := Tryd.sizeOf5
  v5 := Tryd.zeroValue5
  t9 := Tryd.underlying9
  a9 := Tryd.isAgg9
  z9 := Tryd.sizeOf9
  v9 := Tryd.zeroValue9
  t20 := Tryd.underlying20
  a20 := Tryd.isAgg20
  z20 := Tryd.sizeOf20
  v20 := Tryd.zeroValue20
  t21 := Tryd.underlying21
  a21 := Tryd.isAgg21
  z21 := Tryd.sizeOf21
  v21 := Tryd.zeroValue21
  t37 := Tryd.underlying32
  a37 := Tryd.isAgg32
  z37 := Tryd.sizeOf32
  v37 := Tryd.zeroValue32
  t46 := Tryd.underlying56
  a46 := Tryd.isAgg56
  z46 := Tryd.sizeOf56
  v46 := Tryd.zeroValue56
  t51 := Tryd.underlying111
  a51 := Tryd.isAgg111
  z51 := Tryd.sizeOf111
  v51 := Tryd.zeroValue111
  t53 := Tryd.underlying94
  a53 := Tryd.isAgg94
  z53 := Tryd.sizeOf94
  v53 := Tryd.zeroValue94
  t75 := Tryd.underlying53
  a75 := Tryd.isAgg53
  z75 := Tryd.sizeOf53
  v75 := Tryd.zeroValue53
  t76 := Tryd.underlying54
  a76 := Tryd.isAgg54
  z76 := Tryd.sizeOf54
  v76 := Tryd.zeroValue54
  t85 := Tryd.underlying101
  a85 := Tryd.isAgg101
  z85 := Tryd.sizeOf101
  v85 := Tryd.zeroValue101
  t127 := Tryd.underlying73
  a127 := Tryd.isAgg73
  z127 := Tryd.sizeOf73
  v127 := Tryd.zeroValue73
  t143 := Tryd.underlying136
  a143 := Tryd.isAgg136
  z143 := Tryd.sizeOf136
  v143 := Tryd.zeroValue136
  t145 := Tryd.underlying138
  a145 := Tryd.isAgg138
  z145 := Tryd.sizeOf138
  v145 := Tryd.zeroValue138
  t167 := Tryd.underlying100
  a167 := Tryd.isAgg100
  z167 := Tryd.sizeOf100
  v167 := Tryd.zeroValue100
  t168 := Tryd.underlying103
  a168 := Tryd.isAgg103
  z168 := Tryd.sizeOf103
  v168 := Tryd.zeroValue103
  t171 := Tryd.underlying119
  a171 := Tryd.isAgg119
  z171 := Tryd.sizeOf119
  v171 := Tryd.zeroValue119
  t173 := Tryd.underlying122
  a173 := Tryd.isAgg122
  z173 := Tryd.sizeOf122
  v173 := Tryd.zeroValue122
  t175 := Tryd.underlying115
  a175 := Tryd.isAgg115
  z175 := Tryd.sizeOf115
  v175 := Tryd.zeroValue115
  t210 := Tryd.underlying118
  a210 := Tryd.isAgg118
  z210 := Tryd.sizeOf118
  v210 := Tryd.zeroValue118
  t212 := Tryd.underlying154
  a212 := Tryd.isAgg154
  z212 := Tryd.sizeOf154
  v212 := Tryd.zeroValue154
  t213 := Tryd.underlying155
  a213 := Tryd.isAgg155
  z213 := Tryd.sizeOf155
  t232 := Tryd.underlying168
  a232 := Tryd.isAgg168
  z232 := Tryd.sizeOf168
  v232 := Tryd.zeroValue168
  t233 := Tryd.underlying169
  a233 := Tryd.isAgg169
  z233 := Tryd.sizeOf169
  v233 := Tryd.zeroValue169
  g15 := by kernel_rfl
  g16 := by kernel_rfl
  g17 := by kernel_rfl
  g18 := by kernel_rfl
  g19 := by kernel_rfl }
open Go.RowKit in
theorem Tryd.strconv_Atoi (s : ByteArray) (n : Int) (hl : s.size ≤ 18) (h : Lib.atoi s.data.toList = some n) (w : World) :
    Calls Tryd.prog 32 #[.string s] w fun e w' => e = .returned (.tuple #[.int .i64 n, .nilIface]) ∧ ∃ t, w' = Lib.bytesWorld w 5 t := Any.strconv_Atoi Tryd.lays172 s n hl h w
def Tryd.lays129_ren : Go.Shelf.Ren := ⟨fun | 129 => 85 | n => n, fun | 53 => 94 | 3 => 3 | 4 => 4 | 46 => 56 | 5 => 5 | 9 => 9 | n => n, fun | n => n⟩
theorem Tryd.lays129 : Go.Proofs.Lays.n129 Tryd.prog Tryd.lays129_ren := {
  mixed := by kernel_rfl
  f129 := Tryd.func85.trans (congrArg some (by kernel_rfl))
  t3 := Tryd.underlying3
  a3 := Tryd.isAgg3
  z3 := Tryd.sizeOf3
  v3 := Tryd.zeroValue3
  t4 := Tryd.underlying4
  a4 := Tryd.isAgg4
  z4 := Tryd.sizeOf4
  v4 := Tryd.zeroValue4
  t5 := Tryd.underlying5
  a5 := Tryd.isAgg5
  z5 := Tryd.sizeOf5
  v5 := Tryd.zeroValue5
  t9 := Tryd.underlying9
  a9 := Tryd.isAgg9
  z9 := Tryd.sizeOf9
  v9 := Tryd.zeroValue9
  t46 := Tryd.underlying56
  a46 := Tryd.isAgg56
  z46 := Tryd.sizeOf56
  v46 := Tryd.zeroValue56
  t53 := Tryd.underlying94
  a53 := Tryd.isAgg94
  z53 := Tryd.sizeOf94
  v53 := Tryd.zeroValue94 }
theorem Tryd.bits_Len64 (x : Int) (w : World) (h0 : 0 ≤ x) (h1 : x ≤ 18446744073709551615) :
    Calls Tryd.prog 85 #[.int .u64 x] w fun e w' => e = .returned (.int .i64 (Lib.bitLen x.toNat)) ∧ w' = w := Any.bits_Len64 Tryd.lays129 x w h0 h1
def Tryd.lays317_ren : Go.Shelf.Ren := ⟨fun | 317 => 93 | n => n, fun | 3 => 3 | 46 => 56 | n => n, fun | n => n⟩
theorem Tryd.lays317 : Go.Proofs.Lays.n317 Tryd.prog Tryd.lays317_ren := {
  mixed := by kernel_rfl
  f317 := Tryd.func93.trans (congrArg some (by kernel_rfl))
  t3 := Tryd.underlying3
  a3 := Tryd.isAgg3
  z3 := Tryd.sizeOf3
  v3 := Tryd.zeroValue3
  t46 := Tryd.underlying56
  a46 := Tryd.isAgg56
  z46 := Tryd.sizeOf56
  v46 := Tryd.zeroValue56 }
open Go.Lib in
theorem Tryd.internal_strconv_log10Pow2 (x : Nat) (h : x ≤ 64) (w : World) :
    Calls Tryd.prog 93 #[.int .i64 x] w fun e w' => e = .returned (.int .i64 (Lib.l10 x)) ∧ w' = w := Any.internal_strconv_log10Pow2 Tryd.lays317 x h w
def Tryd.lays318_ren : Go.Shelf.Ren := ⟨fun | 318 => 94 | n => n, fun | 3 => 3 | 4 => 4 | n => n, fun | n => n⟩
theorem Tryd.lays318 : Go.Proofs.Lays.n318 Tryd.prog Tryd.lays318_ren := {
  mixed := by kernel_rfl
  f318 := Tryd.func94.trans (congrArg some (by kernel_rfl))
  t3 := Tryd.underlying3
  a3 := Tryd.isAgg3
  z3 := Tryd.sizeOf3
  v3 := Tryd.zeroValue3
  t4 := Tryd.underlying4
  a4 := Tryd.isAgg4
  z4 := Tryd.sizeOf4
  v4 := Tryd.zeroValue4 }
open Go.Lib in
theorem Tryd.internal_strconv_bool2_int (b : Bool) (w : World) :
    Calls Tryd.prog 94 #[.bool b] w fun e w' => e = .returned (.int .i64 (if b then 1 else 0)) ∧ w' = w := Any.internal_strconv_bool2_int Tryd.lays318 b w
def Tryd.lays283_ren : Go.Shelf.Ren := ⟨fun | 283 => 71 | n => n, fun | 3 => 3 | 9 => 9 | 4 => 4 | n => n, fun | n => n⟩
theorem Tryd.lays283 : Go.Proofs.Lays.n283 Tryd.prog Tryd.lays283_ren := {
  mixed := by kernel_rfl
  f283 := Tryd.func71.trans (congrArg some (by kernel_rfl))
  t3 := Tryd.underlying3
  a3 := Tryd.isAgg3
  z3 := Tryd.sizeOf3
  v3 := Tryd.zeroValue3
  t4 := Tryd.underlying4
  a4 := Tryd.isAgg4
  z4 := Tryd.sizeOf4
  v4 := Tryd.zeroValue4
  t9 := Tryd.underlying9
  a9 := Tryd.isAgg9
  z9 := Tryd.sizeOf9
  v9 := Tryd.zeroValue9 }
open Go.Lib in
theorem Tryd.internal_strconv_small (i : Nat) (h : i < 100) (w : World) :
    Calls Tryd.prog 71 #[.int .i64 i] w fun e w' => e = .returned (.string ⟨(Lib.decDigits i).toArray⟩) ∧ w' = w := Any.internal_strconv_small Tryd.lays283 i h w
def Tryd.laysM284_ren : Go.Shelf.Ren := ⟨fun | 284 => 72 | 129 => 85 | 317 => 93 | 318 => 94 | n => n, fun | 53 => 94 | 3 => 3 | 212 => 154 | 0 => 0 | 4 => 4 | 46 => 56 | 5 => 5 | 9 => 9 | n => n, fun | 17 => 5 | n => n⟩
theorem Tryd.laysM284 : Go.Proofs.LaysM.n284 Tryd.prog Tryd.laysM284_ren := {
  mixed := by kernel_rfl
  f129 := Tryd.func85.trans (congrArg some (by kernel_rfl))
  f284 := Tryd.func72.trans (congrArg some (by kernel_rfl))
  f317 := Tryd.func93.trans (congrArg some (by kernel_rfl))
  f318 := Tryd.func94.trans (congrArg some (by kernel_rfl))
  t0 := Tryd.underlying0
  a0 := Tryd.isAgg0
  z0 := Tryd.sizeOf0
  v0 := Tryd.zeroValue0
  t3 := Tryd.underlying3
  a3 := Tryd.isAgg3
  z3 := Tryd.sizeOf3
  v3 := Tryd.zeroValue3
  t4 := Tryd.underlying4
  a4 := Tryd.isAgg4
  z4 := Tryd.sizeOf4
  v4 := Tryd.zeroValue4
  t5 := Tryd.underlying5
  a5 := Tryd.isAgg5
  z5 := Tryd.sizeOf5
  v5 := Tryd.zeroValue5
  t9 := Tryd.underlying9
  a9 := Tryd.isAgg9
  z9 := Tryd.sizeOf9
  v9 := Tryd.zeroValue9
  t46 := Tryd.underlying56
  a46 := Tryd.isAgg56
  z46 := Tryd.sizeOf56
  v46 := Tryd.zeroValue56
  t53 := Tryd.underlying94
  a53 := Tryd.isAgg94
  z53 := Tryd.sizeOf94
  v53 := Tryd.zeroValue94
  t212 := Tryd.underlying154
  a212 := Tryd.isAgg154
  z212 := Tryd.sizeOf154
  v212 := Tryd.zeroValue154
  g17 := by kernel_rfl
  i0 := by kernel_rfl
  i3 := by kernel_rfl
  i4 := by kernel_rfl
  i5 := by kernel_rfl
  i9 := by kernel_rfl
  i46 := by kernel_rfl
  i53 := by kernel_rfl
  i212 := by kernel_rfl
  m17 := by kernel_rfl }
open Go.Lib in
theorem Tryd.internal_strconv_numDigits (u : Nat) (h1 : 1 ≤ u) (h2 : u < 18446744073709551616) (w : World) (htab : Lib.TabIs Tryd.prog w "internal/strconv.uint64pow10" .u64 Lib.pow10Tab) :
    Calls Tryd.prog 72 #[.int .u64 u] w fun e w' => e = .returned (.int .i64 (Lib.nDigits u)) ∧ w' = w := Any.internal_strconv_numDigits Tryd.laysM284 u h1 h2 w htab
def Tryd.lays285_ren : Go.Shelf.Ren := ⟨fun | 285 => 73 | n => n, fun | 37 => 32 | 53 => 94 | 3 => 3 | 4 => 4 | 51 => 111 | 9 => 9 | 5 => 5 | 0 => 0 | n => n, fun | n => n⟩
theorem Tryd.lays285 : Go.Proofs.Lays.n285 Tryd.prog Tryd.lays285_ren := {
  mixed := by kernel_rfl
  f285 := Tryd.func73.trans (congrArg some (by kernel_rfl))
  t0 := Tryd.underlying0
  a0 := Tryd.isAgg0
  z0 := Tryd.sizeOf0
  v0 := Tryd.zeroValue0
  t3 := Tryd.underlying3
  a3 := Tryd.isAgg3
  z3 := Tryd.sizeOf3
  v3 := Tryd.zeroValue3
  t4 := Tryd.underlying4
  a4 := Tryd.isAgg4
  z4 := Tryd.sizeOf4
  v4 := Tryd.zeroValue4
  t5 := Tryd.underlying5
  a5 := Tryd.isAgg5
  z5 := Tryd.sizeOf5
  v5 := Tryd.zeroValue5
  t9 := Tryd.underlying9
  a9 := Tryd.isAgg9
  z9 := Tryd.sizeOf9
  v9 := Tryd.zeroValue9
  t37 := Tryd.underlying32
  a37 := Tryd.isAgg32
  z37 := Tryd.sizeOf32
  v37 := Tryd.zeroValue32
  t51 := Tryd.underlying111
  a51 := Tryd.isAgg111
  z51 := Tryd.sizeOf111
  v51 := Tryd.zeroValue111
  t53 := Tryd.underlying94
  a53 := Tryd.isAgg94
  z53 := Tryd.sizeOf94
  v53 := Tryd.zeroValue94 }
open Go.RowKit Go.Sort Go.Lib in
theorem Tryd.internal_strconv_formatBase10 (blk off cap : Nat) (u : Nat) (d : Array UInt8) (w : World) (hH : Holds (fun (b : UInt8) => Value.int .u8 (b.toNat : Int)) w blk off d) (hu : u < 10 ^ d.size) (hu64 : u < 18446744073709551616) (hsz : d.size < 4611686018427387904) :
    Calls Tryd.prog 73 #[.slice (some ⟨blk, off, none⟩) d.size cap, .int .u64 u] w fun e w' =>
      e = .returned (.tuple #[]) ∧ ∃ (n v' : Nat) (dk : Array UInt8), w' = (putRow (fun (b : UInt8) => Value.int .u8 (b.toNat : Int)) w blk off dk).drewN n ∧ FmtInv d.size u 0 v' dk := Any.internal_strconv_formatBase10 Tryd.lays285 blk off cap u d w hH hu hu64 hsz
def Tryd.laysM246_ren : Go.Shelf.Ren := ⟨fun | 246 => 58 | 283 => 71 | 284 => 72 | 285 => 73 | 286 => 74 | 129 => 85 | 317 => 93 | 318 => 94 | 319 => 95 | 320 => 96 | 337 => 103 | 338 => 104 | n => n, fun | 2 => 2 | 3 => 3 | 9 => 9 | 4 => 4 | 171 => 119 | 0 => 0 | 53 => 94 | 37 => 32 | 5 => 5 | 173 => 122 | 212 => 154 | 51 => 111 | 20 => 20 | 213 => 155 | 46 => 56 | 232 => 168 | 233 => 169 | n => n, fun | 17 => 5 | 18 => 7 | 19 => 8 | n => n⟩
theorem Tryd.laysM246 : Go.Proofs.LaysM.n246 Tryd.prog Tryd.laysM246_ren := {
  mixed := by kernel_rfl
  f129 := Tryd.func85.trans (congrArg some (by kernel_rfl))
  f246 := Tryd.func58.trans (congrArg some (by kernel_rfl))
  f283 := Tryd.func71.trans (congrArg some (by kernel_rfl))
  f284 := Tryd.func72.trans (congrArg some (by kernel_rfl))
  f285 := Tryd.func73.trans (congrArg some (by kernel_rfl))
  f286 := Tryd.func74.trans (congrArg some (by kernel_rfl))
  f317 := Tryd.func93.trans (congrArg some (by kernel_rfl))
  f318 := Tryd.func94.trans (congrArg some (by kernel_rfl))
  f319 := Tryd.func95.trans (congrArg some (by kernel_rfl))
  f320 := Tryd.func96.trans (congrArg some (by kernel_rfl))
  f337 := Tryd.func103.trans (congrArg some (by kernel_rfl))
  f338 := Tryd.func104.trans (congrArg some (by kernel_rfl))
  t0 := Tryd.underlying0
  a0 := Tryd.isAgg0
  z0 := Tryd.sizeOf0
  v0 := Tryd.zeroValue0
  t2 := Tryd.underlying2
  a2 := Tryd.isAgg2
  z2 := Tryd.sizeOf2
  v2 := Tryd.zeroValue2
  t3 := Tryd.underlying3
  a3 := Tryd.isAgg3
  z3 := Tryd.sizeOf3
  v3 := Tryd.zeroValue3
  t4 := Tryd.underlying4
  a4 := Tryd.isAgg4
  z4 := Tryd.sizeOf4
  v4 := Tryd.zeroValue4
  t5 := Tryd.underlying5
  a5 := Tryd.isAgg5
  z5 := Tryd.sizeOf5
  v5 := Tryd.zeroValue5
  t9 := Tryd.underlying9
  a9 := Tryd.isAgg9
  z9 := Tryd.sizeOf9
  v9 := Tryd.zeroValue9
  t20 := Tryd.underlying20
  a20 := Tryd.isAgg20
  z20 := Tryd.sizeOf20
  v20 := Tryd.zeroValue20
  t37 := Tryd.underlying32
  a37 := Tryd.isAgg32
  z37 := Tryd.sizeOf32
  v37 := Tryd.zeroValue32
  t46 := Tryd.underlying56
  a46 := Tryd.isAgg56
  z46 := Tryd.sizeOf56
  v46 := Tryd.zeroValue56
  t51 := Tryd.underlying111
  a51 := Tryd.isAgg111
  z51 := Tryd.sizeOf111
  v51 := Tryd.zeroValue111
  t53 := Tryd.underlying94
  a53 := Tryd.isAgg94
  z53 := Tryd.sizeOf94
  v53 := Tryd.zeroValue94
  t171 := Tryd.underlying119
  a171 := Tryd.isAgg119
  z171 := Tryd.sizeOf119
  v171 := Tryd.zeroValue119
  t173 := Tryd.underlying122
  a173 := Tryd.isAgg122
  z173 := Tryd.sizeOf122
  v173 := Tryd.zeroValue122
  t212 := Tryd.underlying154
  a212 := Tryd.isAgg154
  z212 := Tryd.sizeOf154
  v212 := Tryd.zeroValue154
  t213 := Tryd.underlying155
  a213 := Tryd.isAgg155
  z213 := Tryd.sizeOf155
  t232 := Tryd.underlying168
  a232 := Tryd.isAgg168
  z232 := Tryd.sizeOf168
  v232 := Tryd.zeroValue168
  t233 := Tryd.underlying169
  a233 := Tryd.isAgg169
  z233 := Tryd.sizeOf169
  v233 := Tryd.zeroValue169
  g17 := by kernel_rfl
  g18 := by kernel_rfl
  g19 := by kernel_rfl
  i0 := by kernel_rfl
  i2 := by kernel_rfl
  i3 := by kernel_rfl
  i4 := by kernel_rfl
  i5 := by kernel_rfl
  i9 := by kernel_rfl
  i20 := by kernel_rfl
  i37 := by kernel_rfl
  i46 := by kernel_rfl
  i51 := by kernel_rfl
  i53 := by kernel_rfl
  i171 := by kernel_rfl
  i173 := by kernel_rfl
  i212 := by kernel_rfl
  i232 := by kernel_rfl
  i233 := by kernel_rfl
  m17 := by kernel_rfl
  m18 := by kernel_rfl
  m19 := by kernel_rfl }
open Go.RowKit Go.Sort Go.Lib in
theorem Tryd.internal_strconv_FormatInt_10 (n : Int) (h0 : -9223372036854775808 ≤ n) (h1 : n ≤ 9223372036854775807) (w : World) (htab : Lib.TabIs Tryd.prog w "internal/strconv.uint64pow10" .u64 Lib.pow10Tab) :
    Calls Tryd.prog 58 #[.int .i64 n, .int .i64 10] w fun e w' => e = .returned (.string ⟨(Lib.itoa n).toArray⟩) ∧ ∃ k os, w' = grow (w.drewN k) os := Any.internal_strconv_FormatInt_10 Tryd.laysM246 n h0 h1 w htab
def Tryd.lays246_ren : Go.Shelf.Ren := ⟨fun | 246 => 58 | 283 => 71 | 284 => 72 | 285 => 73 | 286 => 74 | 129 => 85 | 317 => 93 | 318 => 94 | 319 => 95 | 320 => 96 | 337 => 103 | 338 => 104 | n => n, fun | 2 => 2 | 3 => 3 | 9 => 9 | 4 => 4 | 171 => 119 | 0 => 0 | 53 => 94 | 37 => 32 | 5 => 5 | 173 => 122 | 212 => 154 | 51 => 111 | 20 => 20 | 213 => 155 | 46 => 56 | 232 => 168 | 233 => 169 | n => n, fun | 17 => 5 | 18 => 7 | 19 => 8 | n => n⟩
theorem Tryd.lays246 : Go.Proofs.Lays.n246 Tryd.prog Tryd.lays246_ren := {
  mixed := by kernel_rfl
  f129 := Tryd.func85.trans (congrArg some (by kernel_rfl))
  f246 := Tryd.func58.trans (congrArg some (by kernel_rfl))
  f283 := Tryd.func71.trans (congrArg some (by kernel_rfl))
  f284 := Tryd.func72.trans (congrArg some (by kernel_rfl))
  f285 := Tryd.func73.trans (congrArg some (by kernel_rfl))
  f286 := Tryd.func74.trans (congrArg some (by kernel_rfl))
  f317 := Tryd.func93.trans (congrArg some (by kernel_rfl))
  f318 := Tryd.func94.trans (congrArg some (by kernel_rfl))
  f319 := Tryd.func95.trans (congrArg some (by kernel_rfl))
  f320 := Tryd.func96.trans (congrArg some (by kernel_rfl))
  f337 := Tryd.func103.trans (congrArg some (by kernel_rfl))
  f338 := Tryd.func104.trans (congrArg some (by kernel_rfl))
  t0 := Tryd.underlying0
  a0 := Tryd.isAgg0
  z0 := Tryd.sizeOf0
  v0 := Tryd.zeroValue0
  t2 := Tryd.underlying2
  a2 := Tryd.isAgg2
  z2 := Tryd.sizeOf2
  v2 := Tryd.zeroValue2
  t3 := Tryd.underlying3
  a3 := Tryd.isAgg3
  z3 := Tryd.sizeOf3
  v3 := Tryd.zeroValue3
  t4 := Tryd.underlying4
  a4 := Tryd.isAgg4
  z4 := Tryd.sizeOf4
  v4 := Tryd.zeroValue4
  t5 := Tryd.underlying5
  a5 := Tryd.isAgg5
  z5 := Tryd.sizeOf5
  v5 := Tryd.zeroValue5
  t9 := Tryd.underlying9
  a9 := Tryd.isAgg9
  z9 := Tryd.sizeOf9
  v9 := Tryd.zeroValue9
  t20 := Tryd.underlying20
  a20 := Tryd.isAgg20
  z20 := Tryd.sizeOf20
  v20 := Tryd.zeroValue20
  t37 := Tryd.underlying32
  a37 := Tryd.isAgg32
  z37 := Tryd.sizeOf32
  v37 := Tryd.zeroValue32
  t46 := Tryd.underlying56
  a46 := Tryd.isAgg56
  z46 := Tryd.sizeOf56
  v46 := Tryd.zeroValue56
  t51 := Tryd.underlying111
  a51 := Tryd.isAgg111
  z51 := Tryd.sizeOf111
  v51 := Tryd.zeroValue111
  t53 := Tryd.underlying94
  a53 := Tryd.isAgg94
  z53 := Tryd.sizeOf94
  v53 := Tryd.zeroValue94
  t171 := Tryd.underlying119
  a171 := Tryd.isAgg119
  z171 := Tryd.sizeOf119
  v171 := Tryd.zeroValue119
  t173 := Tryd.underlying122
  a173 := Tryd.isAgg122
  z173 := Tryd.sizeOf122
  v173 := Tryd.zeroValue122
  t212 := Tryd.underlying154
  a212 := Tryd.isAgg154
  z212 := Tryd.sizeOf154
  v212 := Tryd.zeroValue154
  t213 := Tryd.underlying155
  a213 := Tryd.isAgg155
  z213 := Tryd.sizeOf155
  t232 := Tryd.underlying168
  a232 := Tryd.isAgg168
  z232 := Tryd.sizeOf168
  v232 := Tryd.zeroValue168
  t233 := Tryd.underlying169
  a233 := Tryd.isAgg169
  z233 := Tryd.sizeOf169
  v233 := Tryd.zeroValue169
  g17 := by kernel_rfl
  g18 := by kernel_rfl
  g19 := by kernel_rfl }
open Go.RowKit Go.Sort Go.Lib in
theorem Tryd.internal_strconv_FormatInt_10_small (i : Nat) (hi : i < 100) (w : World) :
    Calls Tryd.prog 58 #[.int .i64 i, .int .i64 10] w fun e w' => e = .returned (.string ⟨(Lib.decDigits i).toArray⟩) ∧ w' = w := Any.internal_strconv_FormatInt_10_small Tryd.lays246 i hi w
def Tryd.laysM243_ren : Go.Shelf.Ren := ⟨fun | 243 => 43 | 246 => 58 | 283 => 71 | 284 => 72 | 285 => 73 | 286 => 74 | 129 => 85 | 317 => 93 | 318 => 94 | 319 => 95 | 320 => 96 | 337 => 103 | 338 => 104 | n => n, fun | 3 => 3 | 9 => 9 | 2 => 2 | 4 => 4 | 171 => 119 | 0 => 0 | 53 => 94 | 37 => 32 | 5 => 5 | 173 => 122 | 212 => 154 | 51 => 111 | 20 => 20 | 213 => 155 | 46 => 56 | 232 => 168 | 233 => 169 | n => n, fun | 17 => 5 | 18 => 7 | 19 => 8 | n => n⟩
theorem Tryd.laysM243 : Go.Proofs.LaysM.n243 Tryd.prog Tryd.laysM243_ren := {
  mixed := by kernel_rfl
  f129 := Tryd.func85.trans (congrArg some (by kernel_rfl))
  f243 := Tryd.func43.trans (congrArg some (by kernel_rfl))
  f246 := Tryd.func58.trans (congrArg some (by kernel_rfl))
  f283 := Tryd.func71.trans (congrArg some (by kernel_rfl))
  f284 := Tryd.func72.trans (congrArg some (by kernel_rfl))
  f285 := Tryd.func73.trans (congrArg some (by kernel_rfl))
  f286 := Tryd.func74.trans (congrArg some (by kernel_rfl))
  f317 := Tryd.func93.trans (congrArg some (by kernel_rfl))
  f318 := Tryd.func94.trans (congrArg some (by kernel_rfl))
  f319 := Tryd.func95.trans (congrArg some (by kernel_rfl))
  f320 := Tryd.func96.trans (congrArg some (by kernel_rfl))
  f337 := Tryd.func103.trans (congrArg some (by kernel_rfl))
  f338 := Tryd.func104.trans (congrArg some (by kernel_rfl))
  t0 := Tryd.underlying0
  a0 := Tryd.isAgg0
  z0 := Tryd.sizeOf0
  v0 := Tryd.zeroValue0
  t2 := Tryd.underlying2
  a2 := Tryd.isAgg2
  z2 := Tryd.sizeOf2
  v2 := Tryd.zeroValue2
  t3 := Tryd.underlying3
  a3 := Tryd.isAgg3
  z3 := Tryd.sizeOf3
  v3 := Tryd.zeroValue3
  t4 := Tryd.underlying4
  a4 := Tryd.isAgg4
  z4 := Tryd.sizeOf4
  v4 := Tryd.zeroValue4
  t5 := Tryd.underlying5
  a5 := Tryd.isAgg5
  z5 := Tryd.sizeOf5
  v5 := Tryd.zeroValue5
  t9 := Tryd.underlying9
  a9 := Tryd.isAgg9
  z9 := Tryd.sizeOf9
  v9 := Tryd.zeroValue9
  t20 := Tryd.underlying20
  a20 := Tryd.isAgg20
  z20 := Tryd.sizeOf20
  v20 := Tryd.zeroValue20
  t37 := Tryd.underlying32
  a37 := Tryd.isAgg32
  z37 := Tryd.sizeOf32
  v37 := Tryd.zeroValue32
  t46 := Tryd.underlying56
  a46 := Tryd.isAgg56
  z46 := Tryd.sizeOf56
  v46 := Tryd.zeroValue56
  t51 := Tryd.underlying111
  a51 := Tryd.isAgg111
  z51 := Tryd.sizeOf111
  v51 := Tryd.zeroValue111
  t53 := Tryd.underlying94
  a53 := Tryd.isAgg94
  z53 := Tryd.sizeOf94
  v53 := Tryd.zeroValue94
  t171 := Tryd.underlying119
  a171 := Tryd.isAgg119
  z171 := Tryd.sizeOf119
  v171 := Tryd.zeroValue119
  t173 := Tryd.underlying122
  a173 := Tryd.isAgg122
  z173 := Tryd.sizeOf122
  v173 := Tryd.zeroValue122
  t212 := Tryd.underlying154
  a212 := Tryd.isAgg154
  z212 := Tryd.sizeOf154
  v212 := Tryd.zeroValue154
  t213 := Tryd.underlying155
  a213 := Tryd.isAgg155
  z213 := Tryd.sizeOf155
  t232 := Tryd.underlying168
  a232 := Tryd.isAgg168
  z232 := Tryd.sizeOf168
  v232 := Tryd.zeroValue168
  t233 := Tryd.underlying169
  a233 := Tryd.isAgg169
  z233 := Tryd.sizeOf169
  v233 := Tryd.zeroValue169
  g17 := by kernel_rfl
  g18 := by kernel_rfl
  g19 := by kernel_rfl
  i0 := by kernel_rfl
  i2 := by kernel_rfl
  i3 := by kernel_rfl
  i4 := by kernel_rfl
  i5 := by kernel_rfl
  i9 := by kernel_rfl
  i20 := by kernel_rfl
  i37 := by kernel_rfl
  i46 := by kernel_rfl
  i51 := by kernel_rfl
  i53 := by kernel_rfl
  i171 := by kernel_rfl
  i173 := by kernel_rfl
  i212 := by kernel_rfl
  i232 := by kernel_rfl
  i233 := by kernel_rfl
  m17 := by kernel_rfl
  m18 := by kernel_rfl
  m19 := by kernel_rfl }
open Go.RowKit Go.Sort Go.Lib in
theorem Tryd.internal_strconv_Itoa (n : Int) (h0 : -9223372036854775808 ≤ n) (h1 : n ≤ 9223372036854775807) (w : World) (htab : Lib.TabIs Tryd.prog w "internal/strconv.uint64pow10" .u64 Lib.pow10Tab) :
    Calls Tryd.prog 43 #[.int .i64 n] w fun e w' => e = .returned (.string ⟨(Lib.itoa n).toArray⟩) ∧ ∃ k os, w' = grow (w.drewN k) os := Any.internal_strconv_Itoa Tryd.laysM243 n h0 h1 w htab
def Tryd.lays243_ren : Go.Shelf.Ren := ⟨fun | 243 => 43 | 246 => 58 | 283 => 71 | 284 => 72 | 285 => 73 | 286 => 74 | 129 => 85 | 317 => 93 | 318 => 94 | 319 => 95 | 320 => 96 | 337 => 103 | 338 => 104 | n => n, fun | 3 => 3 | 9 => 9 | 2 => 2 | 4 => 4 | 171 => 119 | 0 => 0 | 53 => 94 | 37 => 32 | 5 => 5 | 173 => 122 | 212 => 154 | 51 => 111 | 20 => 20 | 213 => 155 | 46 => 56 | 232 => 168 | 233 => 169 | n => n, fun | 17 => 5 | 18 => 7 | 19 => 8 | n => n⟩
theorem Tryd.lays243 : Go.Proofs.Lays.n243 Tryd.prog Tryd.lays243_ren := {
  mixed := by kernel_rfl
  f129 := Tryd.func85.trans (congrArg some (by kernel_rfl))
  f243 := Tryd.func43.trans (congrArg some (by kernel_rfl))
  f246 := Tryd.func58.trans (congrArg some (by kernel_rfl))
  f283 := Tryd.func71.trans (congrArg some (by kernel_rfl))
  f284 := Tryd.func72.trans (congrArg some (by kernel_rfl))
  f285 := Tryd.func73.trans (congrArg some (by kernel_rfl))
  f286 := Tryd.func74.trans (congrArg some (by kernel_rfl))
  f317 := Tryd.func93.trans (congrArg some (by kernel_rfl))
  f318 := Tryd.func94.trans (congrArg some (by kernel_rfl))
  f319 := Tryd.func95.trans (congrArg some (by kernel_rfl))
  f320 := Tryd.func96.trans (congrArg some (by kernel_rfl))
  f337 := Tryd.func103.trans (congrArg some (by kernel_rfl))
  f338 := Tryd.func104.trans (congrArg some (by kernel_rfl))
  t0 := Tryd.underlying0
  a0 := Tryd.isAgg0
  z0 := Tryd.sizeOf0
  v0 := Tryd.zeroValue0
  t2 := Tryd.underlying2
  a2 := Tryd.isAgg2
  z2 := Tryd.sizeOf2
  v2 := Tryd.zeroValue2
  t3 := Tryd.underlying3
  a3 := Tryd.isAgg3
  z3 := Tryd.sizeOf3
  v3 := Tryd.zeroValue3
  t4 := Tryd.underlying4
  a4 := Tryd.isAgg4
  z4 := Tryd.sizeOf4
  v4 := Tryd.zeroValue4
  t5 := Tryd.underlying5
  a5 := Tryd.isAgg5
  z5 := Tryd.sizeOf5
  v5 := Tryd.zeroValue5
  t9 := Tryd.underlying9
  a9 := Tryd.isAgg9
  z9 := Tryd.sizeOf9
  v9 := Tryd.zeroValue9
  t20 := Tryd.underlying20
  a20 := Tryd.isAgg20
  z20 := Tryd.sizeOf20
  v20 := Tryd.zeroValue20
  t37 := Tryd.underlying32
  a37 := Tryd.isAgg32
  z37 := Tryd.sizeOf32
  v37 := Tryd.zeroValue32
  t46 := Tryd.underlying56
  a46 := Tryd.isAgg56
  z46 := Tryd.sizeOf56
  v46 := Tryd.zeroValue56
  t51 := Tryd.underlying111
  a51 := Tryd.isAgg111
  z51 := Tryd.sizeOf111
  v51 := Tryd.zeroValue111
  t53 := Tryd.underlying94
  a53 := Tryd.isAgg94
  z53 := Tryd.sizeOf94
  v53 := Tryd.zeroValue94
  t171 := Tryd.underlying119
  a171 := Tryd.isAgg119
  z171 := Tryd.sizeOf119
  v171 := Tryd.zeroValue119
  t173 := Tryd.underlying122
  a173 := Tryd.isAgg122
  z173 := Tryd.sizeOf122
  v173 := Tryd.zeroValue122
  t212 := Tryd.underlying154
  a212 := Tryd.isAgg154
  z212 := Tryd.sizeOf154
  v212 := Tryd.zeroValue154
  t213 := Tryd.underlying155
  a213 := Tryd.isAgg155
  z213 := Tryd.sizeOf155
  t232 := Tryd.underlying168
  a232 := Tryd.isAgg168
  z232 := Tryd.sizeOf168
  v232 := Tryd.zeroValue168
  t233 := Tryd.underlying169
  a233 := Tryd.isAgg169
  z233 := Tryd.sizeOf169
  v233 := Tryd.zeroValue169
  g17 := by kernel_rfl
  g18 := by kernel_rfl
  g19 := by kernel_rfl }
open Go.RowKit Go.Sort Go.Lib in
theorem Tryd.internal_strconv_Itoa_small (i : Nat) (hi : i < 100) (w : World) :
    Calls Tryd.prog 43 #[.int .i64 i] w fun e w' => e = .returned (.string ⟨(Lib.decDigits i).toArray⟩) ∧ w' = w := Any.internal_strconv_Itoa_small Tryd.lays243 i hi w
def Tryd.laysM171_ren : Go.Shelf.Ren := ⟨fun | 171 => 33 | 243 => 43 | 246 => 58 | 283 => 71 | 284 => 72 | 285 => 73 | 286 => 74 | 129 => 85 | 317 => 93 | 318 => 94 | 319 => 95 | 320 => 96 | 337 => 103 | 338 => 104 | n => n, fun | 3 => 3 | 9 => 9 | 2 => 2 | 4 => 4 | 171 => 119 | 0 => 0 | 53 => 94 | 37 => 32 | 5 => 5 | 173 => 122 | 212 => 154 | 51 => 111 | 20 => 20 | 213 => 155 | 46 => 56 | 232 => 168 | 233 => 169 | n => n, fun | 17 => 5 | 18 => 7 | 19 => 8 | n => n⟩
theorem Tryd.laysM171 : Go.Proofs.LaysM.n171 Tryd.prog Tryd.laysM171_ren := {
  mixed := by kernel_rfl
  f129 := Tryd.func85.trans (congrArg some (by kernel_rfl))
  f171 := Tryd.func33.trans (congrArg some (by kernel_rfl))
  f243 := Tryd.func43.trans (congrArg some (by kernel_rfl))
  f246 := Tryd.func58.trans (congrArg some (by kernel_rfl))
  f283 := Tryd.func71.trans (congrArg some (by kernel_rfl))
  f284 := Tryd.func72.trans (congrArg some (by kernel_rfl))
  f285 := Tryd.func73.trans (congrArg some (by kernel_rfl))
  f286 := Tryd.func74.trans (congrArg some (by kernel_rfl))
  f317 := Tryd.func93.trans (congrArg some (by kernel_rfl))
  f318 := Tryd.func94.trans (congrArg some (by kernel_rfl))
  f319 := Tryd.func95.trans (congrArg some (by kernel_rfl))
  f320 := Tryd.func96.trans (congrArg some (by kernel_rfl))
  f337 := Tryd.func103.trans (congrArg some (by kernel_rfl))
  f338 := Tryd.func104.trans (congrArg some (by kernel_rfl))
  t0 := Tryd.underlying0
  a0 := Tryd.isAgg0
  z0 := Tryd.sizeOf0
  v0 := Tryd.zeroValue0
  t2 := Tryd.underlying2
  a2 := Tryd.isAgg2
  z2 := Tryd.sizeOf2
  v2 := Tryd.zeroValue2
  t3 := Tryd.underlying3
  a3 := Tryd.isAgg3
  z3 := Tryd.sizeOf3
  v3 := Tryd.zeroValue3
  t4 := Tryd.underlying4
  a4 := Tryd.isAgg4
  z4 := Tryd.sizeOf4
  v4 := Tryd.zeroValue4
  t5 := Tryd.underlying5
  a5 := Tryd.isAgg5
  z5 := Tryd.sizeOf5
  v5 := Tryd.zeroValue5
  t9 := Tryd.underlying9
  a9 := Tryd.isAgg9
  z9 := Tryd.sizeOf9
  v9 := Tryd.zeroValue9
  t20 := Tryd.underlying20
  a20 := Tryd.isAgg20
  z20 := Tryd.sizeOf20
  v20 := Tryd.zeroValue20
  t37 := Tryd.underlying32
  a37 := Tryd.isAgg32
  z37 := Tryd.sizeOf32
  v37 := Tryd.zeroValue32
  t46 := Tryd.underlying56
  a46 := Tryd.isAgg56
  z46 := Tryd.sizeOf56
  v46 := Tryd.zeroValue56
  t51 := Tryd.underlying111
  a51 := Tryd.isAgg111
  z51 := Tryd.sizeOf111
  v51 := Tryd.zeroValue111
  t53 := Tryd.underlying94
  a53 := Tryd.isAgg94
  z53 := Tryd.sizeOf94
  v53 := Tryd.zeroValue94
  t171 := Tryd.underlying119
  a171 := Tryd.isAgg119
  z171 := Tryd.sizeOf119
  v171 := Tryd.zeroValue119
  t173 := Tryd.underlying122
  a173 := Tryd.isAgg122
  z173 := Tryd.sizeOf122
  v173 := Tryd.zeroValue122
  t212 := Tryd.underlying154
  a212 := Tryd.isAgg154
  z212 := Tryd.sizeOf154
  v212 := Tryd.zeroValue154
  t213 := Tryd.underlying155
  a213 := Tryd.isAgg155
  z213 := Tryd.sizeOf155
  t232 := Tryd.underlying168
  a232 := Tryd.isAgg168
  z232 := Tryd.sizeOf168
  v232 := Tryd.zeroValue168
  t233 := Tryd.underlying169
  a233 := Tryd.isAgg169
  z233 := Tryd.sizeOf169
  v233 := Tryd.zeroValue169
  g17 := by kernel_rfl
  g18 := by kernel_rfl
  g19 := by kernel_rfl
  i0 := by kernel_rfl
  i2 := by kernel_rfl
  i3 := by kernel_rfl
  i4 := by kernel_rfl
  i5 := by kernel_rfl
  i9 := by kernel_rfl
  i20 := by kernel_rfl
  i37 := by kernel_rfl
  i46 := by kernel_rfl
  i51 := by kernel_rfl
  i53 := by kernel_rfl
  i171 := by kernel_rfl
  i173 := by kernel_rfl
  i212 := by kernel_rfl
  i232 := by kernel_rfl
  i233 := by kernel_rfl
  m17 := by kernel_rfl
  m18 := by kernel_rfl
  m19 := by kernel_rfl }
open Go.RowKit Go.Sort Go.Lib in
theorem Tryd.strconv_Itoa (n : Int) (h0 : -9223372036854775808 ≤ n) (h1 : n ≤ 9223372036854775807) (w : World) (htab : Lib.TabIs Tryd.prog w "internal/strconv.uint64pow10" .u64 Lib.pow10Tab) :
    Calls Tryd.prog 33 #[.int .i64 n] w fun e w' => e = .returned (.string ⟨(Lib.itoa n).toArray⟩) ∧ ∃ k os, w' = grow (w.drewN k) os := Any.strconv_Itoa Tryd.laysM171 n h0 h1 w htab
def Tryd.lays171_ren : Go.Shelf.Ren := ⟨fun | 171 => 33 | 243 => 43 | 246 => 58 | 283 => 71 | 284 => 72 | 285 => 73 | 286 => 74 | 129 => 85 | 317 => 93 | 318 => 94 | 319 => 95 | 320 => 96 | 337 => 103 | 338 => 104 | n => n, fun | 3 => 3 | 9 => 9 | 2 => 2 | 4 => 4 | 171 => 119 | 0 => 0 | 53 => 94 | 37 => 32 | 5 => 5 | 173 => 122 | 212 => 154 | 51 => 111 | 20 => 20 | 213 => 155 | 46 => 56 | 232 => 168 | 233 => 169 | n => n, fun | 17 => 5 | 18 => 7 | 19 => 8 | n => n⟩
theorem Tryd.lays171 : Go.Proofs.Lays.n171 Tryd.prog Tryd.lays171_ren := {
  mixed := by kernel_rfl
  f129 := Tryd.func85.trans (congrArg some (by kernel_rfl))
  f171 := Tryd.func33.trans (congrArg some (by kernel_rfl))
  f243 := Tryd.func43.trans (congrArg some (by kernel_rfl))
  f246 := Tryd.func58.trans (congrArg some (by kernel_rfl))
  f283 := Tryd.func71.trans (congrArg some (by kernel_rfl))
  f284 := Tryd.func72.trans (congrArg some (by kernel_rfl))
  f285 := Tryd.func73.trans (congrArg some (by kernel_rfl))
  f286 := Tryd.func74.trans (congrArg some (by kernel_rfl))
  f317 := Tryd.func93.trans (congrArg some (by kernel_rfl))
  f318 := Tryd.func94.trans (congrArg some (by kernel_rfl))
  f319 := Tryd.func95.trans (congrArg some (by kernel_rfl))
  f320 := Tryd.func96.trans (congrArg some (by kernel_rfl))
  f337 := Tryd.func103.trans (congrArg some (by kernel_rfl))
  f338 := Tryd.func104.trans (congrArg some (by kernel_rfl))
  t0 := Tryd.underlying0
  a0 := Tryd.isAgg0
  z0 := Tryd.sizeOf0
  v0 := Tryd.zeroValue0
  t2 := Tryd.underlying2
  a2 := Tryd.isAgg2
  z2 := Tryd.sizeOf2
  v2 := Tryd.zeroValue2
  t3 := Tryd.underlying3
  a3 := Tryd.isAgg3
  z3 := Tryd.sizeOf3
  v3 := Tryd.zeroValue3
  t4 := Tryd.underlying4
  a4 := Tryd.isAgg4
  z4 := Tryd.sizeOf4
  v4 := Tryd.zeroValue4
  t5 := Tryd.underlying5
  a5 := Tryd.isAgg5
  z5 := Tryd.sizeOf5
  v5 := Tryd.zeroValue5
  t9 := Tryd.underlying9
  a9 := Tryd.isAgg9
  z9 := Tryd.sizeOf9
  v9 := Tryd.zeroValue9
  t20 := Tryd.underlying20
  a20 := Tryd.isAgg20
  z20 := Tryd.sizeOf20
  v20 := Tryd.zeroValue20
  t37 := Tryd.underlying32
  a37 := Tryd.isAgg32
  z37 := Tryd.sizeOf32
  v37 := Tryd.zeroValue32
  t46 := Tryd.underlying56
  a46 := Tryd.isAgg56
  z46 := Tryd.sizeOf56
  v46 := Tryd.zeroValue56
  t51 := Tryd.underlying111
  a51 := Tryd.isAgg111
  z51 := Tryd.sizeOf111
  v51 := Tryd.zeroValue111
  t53 := Tryd.underlying94
  a53 := Tryd.isAgg94
  z53 := Tryd.sizeOf94
  v53 := Tryd.zeroValue94
  t171 := Tryd.underlying119
  a171 := Tryd.isAgg119
  z171 := Tryd.sizeOf119
  v171 := Tryd.zeroValue119
  t173 := Tryd.underlying122
  a173 := Tryd.isAgg122
  z173 := Tryd.sizeOf122
  v173 := Tryd.zeroValue122
  t212 := Tryd.underlying154
  a212 := Tryd.isAgg154
  z212 := Tryd.sizeOf154
  v212 := Tryd.zeroValue154
  t213 := Tryd.underlying155
  a213 := Tryd.isAgg155
  z213 := Tryd.sizeOf155
  t232 := Tryd.underlying168
  a232 := Tryd.isAgg168
  z232 := Tryd.sizeOf168
  v232 := Tryd.zeroValue168
  t233 := Tryd.underlying169
  a233 := Tryd.isAgg169
  z233 := Tryd.sizeOf169
  v233 := Tryd.zeroValue169
  g17 := by kernel_rfl
  g18 := by kernel_rfl
  g19 := by kernel_rfl }
open Go.RowKit Go.Sort Go.Lib in
theorem Tryd.strconv_Itoa_small (i : Nat) (hi : i < 100) (w : World) :
    Calls Tryd.prog 33 #[.int .i64 i] w fun e w' => e = .returned (.string ⟨(Lib.decDigits i).toArray⟩) ∧ w' = w := Any.strconv_Itoa_small Tryd.lays171 i hi w
open Go.RowKit in
theorem Tryd.internal_strconv_Atoi_err (s : ByteArray) (hl0 : 1 ≤ s.size) (hl : s.size ≤ 18) (h : Lib.atoi s.data.toList = none) (w : World) :
    Calls Tryd.prog 41 #[.string s] w fun e w' => e = .returned (.tuple #[.int .i64 0, (.iface 100 (.int .i64 2))]) ∧ (w' = w ∨ ∃ t, w' = Lib.bytesWorld w 5 t) := Any.internal_strconv_Atoi_err Tryd.lays244 s hl0 hl h w
def Tryd.lays247_ren : Go.Shelf.Ren := ⟨fun | 247 => 53 | 287 => 69 | 321 => 91 | 322 => 92 | n => n, fun | 9 => 9 | 3 => 3 | 2 => 2 | 75 => 53 | 4 => 4 | 167 => 100 | 5 => 5 | 53 => 94 | 175 => 115 | 46 => 56 | 37 => 32 | 0 => 0 | 21 => 21 | 80 => 42 | n => n, fun | n => n⟩
theorem Tryd.lays247 : Go.Proofs.Lays.n247 Tryd.prog Tryd.lays247_ren := {
  mixed := by kernel_rfl
  f247 := Tryd.func53.trans (congrArg some (by kernel_rfl))
  f287 := Tryd.func69.trans (congrArg some (by kernel_rfl))
  f321 := Tryd.func91.trans (congrArg some (by kernel_rfl))
  f322 := Tryd.func92.trans (congrArg some (by kernel_rfl))
  t0 := Tryd.underlying0
  a0 := Tryd.isAgg0
  z0 := Tryd.sizeOf0
  v0 := Tryd.zeroValue0
  t2 := Tryd.underlying2
  a2 := Tryd.isAgg2
  z2 := Tryd.sizeOf2
  v2 := Tryd.zeroValue2
  t3 := Tryd.underlying3
  a3 := Tryd.isAgg3
  z3 := Tryd.sizeOf3
  v3 := Tryd.zeroValue3
  t4 := Tryd.underlying4
  a4 := Tryd.isAgg4
  z4 := Tryd.sizeOf4
  v4 := Tryd.zeroValue4
  t5 := Tryd.underlying5
  a5 := Tryd.isAgg5
  z5 := Tryd.sizeOf5
  v5 := Tryd.zeroValue5
  t9 := Tryd.underlying9
  a9 := Tryd.isAgg9
  z9 := Tryd.sizeOf9
  v9 := Tryd.zeroValue9
  t21 := Tryd.underlying21
  a21 := Tryd.isAgg21
  z21 := Tryd.sizeOf21
  v21 := Tryd.zeroValue21
  t37 := Tryd.underlying32
  a37 := Tryd.isAgg32
  z37 := Tryd.sizeOf32
  v37 := Tryd.zeroValue32
  t46 := Tryd.underlying56
  a46 := Tryd.isAgg56
  z46 := Tryd.sizeOf56
  v46 := Tryd.zeroValue56
  t53 := Tryd.underlying94
  a53 := Tryd.isAgg94
  z53 := Tryd.sizeOf94
  v53 := Tryd.zeroValue94
  t75 := Tryd.underlying53
  a75 := Tryd.isAgg53
  z75 := Tryd.sizeOf53
  v75 := Tryd.zeroValue53
  t167 := Tryd.underlying100
  a167 := Tryd.isAgg100
  z167 := Tryd.sizeOf100
  v167 := Tryd.zeroValue100
  t175 := Tryd.underlying115
  a175 := Tryd.isAgg115
  z175 := Tryd.sizeOf115
  v175 := Tryd.zeroValue115 }
open Go.RowKit in
theorem Tryd.internal_strconv_ParseInt_empty (base bits : Int) (w : World) :
    Calls Tryd.prog 53 #[.string ⟨#[]⟩, .int .i64 base, .int .i64 bits] w fun e w' => e = .returned (.tuple #[.int .i64 0, (.iface 100 (.int .i64 2))]) ∧ w' = w := Any.internal_strconv_ParseInt_empty Tryd.lays247 base bits w
open Go.RowKit in
theorem Tryd.internal_strconv_Atoi_empty (w : World) :
    Calls Tryd.prog 41 #[.string ⟨#[]⟩] w fun e w' => e = .returned (.tuple #[.int .i64 0, (.iface 100 (.int .i64 2))]) ∧ w' = w := Any.internal_strconv_Atoi_empty Tryd.lays244 w
open Go.RowKit in
theorem Tryd.internal_strconv_Atoi_fail (s : ByteArray) (hl : s.size ≤ 18) (h : Lib.atoi s.data.toList = none) (w : World) :
    Calls Tryd.prog 41 #[.string s] w fun e w' => e = .returned (.tuple #[.int .i64 0, (.iface 100 (.int .i64 2))]) ∧ (w' = w ∨ ∃ t, w' = Lib.bytesWorld w 5 t) := Any.internal_strconv_Atoi_fail Tryd.lays244 s hl h w
def Tryd.laysM316_ren : Go.Shelf.Ren := ⟨fun | 316 => 70 | n => n, fun | 9 => 9 | 3 => 3 | 4 => 4 | 37 => 32 | 0 => 0 | 127 => 73 | 5 => 5 | n => n, fun | n => n⟩
theorem Tryd.laysM316 : Go.Proofs.LaysM.n316 Tryd.prog Tryd.laysM316_ren := {
  mixed := by kernel_rfl
  f316 := Tryd.func70.trans (congrArg some (by kernel_rfl))
  t0 := Tryd.underlying0
  a0 := Tryd.isAgg0
  z0 := Tryd.sizeOf0
  v0 := Tryd.zeroValue0
  t3 := Tryd.underlying3
  a3 := Tryd.isAgg3
  z3 := Tryd.sizeOf3
  v3 := Tryd.zeroValue3
  t4 := Tryd.underlying4
  a4 := Tryd.isAgg4
  z4 := Tryd.sizeOf4
  v4 := Tryd.zeroValue4
  t9 := Tryd.underlying9
  a9 := Tryd.isAgg9
  z9 := Tryd.sizeOf9
  v9 := Tryd.zeroValue9
  t37 := Tryd.underlying32
  a37 := Tryd.isAgg32
  z37 := Tryd.sizeOf32
  v37 := Tryd.zeroValue32
  t127 := Tryd.underlying73
  a127 := Tryd.isAgg73
  z127 := Tryd.sizeOf73
  v127 := Tryd.zeroValue73
  t5 := Tryd.underlying5
  a5 := Tryd.isAgg5
  z5 := Tryd.sizeOf5
  v5 := Tryd.zeroValue5
  i0 := by kernel_rfl
  i3 := by kernel_rfl
  i4 := by kernel_rfl
  i5 := by kernel_rfl
  i9 := by kernel_rfl
  i37 := by kernel_rfl
  i127 := by kernel_rfl }
open Go.RowKit in
theorem Tryd.stringslite_Clone (s : ByteArray) (w : World) (hlim : s.size ≤ 281474976710656) :
    Calls Tryd.prog 70 #[.string s] w fun e w' => e = .returned (.string s) ∧ Below w.heap.size w w' := Any.stringslite_Clone Tryd.laysM316 s w hlim
def Tryd.laysM279_ren : Go.Shelf.Ren := ⟨fun | 279 => 54 | 316 => 70 | n => n, fun | 9 => 9 | 168 => 103 | 75 => 53 | 210 => 118 | 3 => 3 | 4 => 4 | 37 => 32 | 0 => 0 | 127 => 73 | 80 => 42 | 5 => 5 | n => n, fun | 15 => 3 | n => n⟩
theorem Tryd.laysM279 : Go.Proofs.LaysM.n279 Tryd.prog Tryd.laysM279_ren := {
  mixed := by kernel_rfl
  f279 := Tryd.func54.trans (congrArg some (by kernel_rfl))
  f316 := Tryd.func70.trans (congrArg some (by kernel_rfl))
  t0 := Tryd.underlying0
  a0 := Tryd.isAgg0
  z0 := Tryd.sizeOf0
  v0 := Tryd.zeroValue0
  t3 := Tryd.underlying3
  a3 := Tryd.isAgg3
  z3 := Tryd.sizeOf3
  v3 := Tryd.zeroValue3
  t4 := Tryd.underlying4
  a4 := Tryd.isAgg4
  z4 := Tryd.sizeOf4
  v4 := Tryd.zeroValue4
  t9 := Tryd.underlying9
  a9 := Tryd.isAgg9
  z9 := Tryd.sizeOf9
  v9 := Tryd.zeroValue9
  t37 := Tryd.underlying32
  a37 := Tryd.isAgg32
  z37 := Tryd.sizeOf32
  v37 := Tryd.zeroValue32
  t75 := Tryd.underlying53
  a75 := Tryd.isAgg53
  z75 := Tryd.sizeOf53
  v75 := Tryd.zeroValue53
  t127 := Tryd.underlying73
  a127 := Tryd.isAgg73
  z127 := Tryd.sizeOf73
  v127 := Tryd.zeroValue73
  t168 := Tryd.underlying103
  a168 := Tryd.isAgg103
  z168 := Tryd.sizeOf103
  v168 := Tryd.zeroValue103
  t210 := Tryd.underlying118
  a210 := Tryd.isAgg118
  z210 := Tryd.sizeOf118
  v210 := Tryd.zeroValue118
  g15 := by kernel_rfl
  t5 := Tryd.underlying5
  a5 := Tryd.isAgg5
  z5 := Tryd.sizeOf5
  v5 := Tryd.zeroValue5
  t80 := Tryd.underlying42
  a80 := Tryd.isAgg42
  z80 := Tryd.sizeOf42
  v80 := Tryd.zeroValue42
  i0 := by kernel_rfl
  i3 := by kernel_rfl
  i4 := by kernel_rfl
  i5 := by kernel_rfl
  i9 := by kernel_rfl
  i37 := by kernel_rfl
  i75 := by kernel_rfl
  i80 := by kernel_rfl
  i127 := by kernel_rfl
  i168 := by kernel_rfl
  i210 := by kernel_rfl
  m15 := by kernel_rfl }
open Go.RowKit in
theorem Tryd.strconv_syntaxError (fn s : ByteArray) (ev : Value) (w : World) (hlim : s.size ≤ 281474976710656) (hv : w.cell? ⟨3, 0, none⟩ = some ev) (hev : ev = .nilIface ∨ ∃ te pe, ev = .iface te pe) :
    Calls Tryd.prog 54 #[.string fn, .string s] w fun e w' => ∃ N, e = .returned (.pointer (some ⟨N, 0, none⟩)) ∧ w.heap.size ≤ N ∧ w'.heap[N]? = some (.cells #[.string fn, .string s, ev] 118 (0, 0)) ∧ Below w.heap.size w w' := Any.strconv_syntaxError Tryd.laysM279 fn s ev w hlim hv hev
def Tryd.laysC245_ren : Go.Shelf.Ren := ⟨fun | 245 => 42 | 279 => 54 | 280 => 55 | 281 => 56 | 282 => 57 | 316 => 70 | 171 => 33 | 205 => 64 | 243 => 43 | 246 => 58 | 283 => 71 | 284 => 72 | 285 => 73 | 286 => 74 | 129 => 85 | 317 => 93 | 318 => 94 | 319 => 95 | 320 => 96 | 337 => 103 | 338 => 104 | n => n, fun | 9 => 9 | 3 => 3 | 75 => 53 | 167 => 100 | 4 => 4 | 168 => 103 | 210 => 118 | 37 => 32 | 0 => 0 | 127 => 73 | 145 => 138 | 143 => 136 | 2 => 2 | 171 => 119 | 53 => 94 | 5 => 5 | 173 => 122 | 212 => 154 | 51 => 111 | 20 => 20 | 213 => 155 | 46 => 56 | 232 => 168 | 233 => 169 | 80 => 42 | n => n, fun | 15 => 3 | 16 => 4 | 17 => 5 | 18 => 7 | 19 => 8 | n => n⟩
theorem Tryd.laysC245 : Go.Proofs.LaysC.n245 Tryd.prog Tryd.laysC245_ren := {
  mixed := by kernel_rfl
  f129 := Tryd.func85.trans (congrArg some (by kernel_rfl))
  f171 := Tryd.func33.trans (congrArg some (by kernel_rfl))
  f205 := Tryd.func64.trans (congrArg some (by kernel_rfl))
  f243 := Tryd.func43.trans (congrArg some (by kernel_rfl))
  f245 := Tryd.func42.trans (congrArg some (by kernel_rfl))
  f246 := Tryd.func58.trans (congrArg some (by kernel_rfl))
  f279 := Tryd.func54.trans (congrArg some (by kernel_rfl))
  f280 := Tryd.func55.trans (congrArg some (by kernel_rfl))
  f281 := Tryd.func56.trans (congrArg some (by kernel_rfl))
  f282 := Tryd.func57.trans (congrArg some (by kernel_rfl))
  f283 := Tryd.func71.trans (congrArg some (by kernel_rfl))
  f284 := Tryd.func72.trans (congrArg some (by kernel_rfl))
  f285 := Tryd.func73.trans (congrArg some (by kernel_rfl))
  f286 := Tryd.func74.trans (congrArg some (by kernel_rfl))
  f316 := Tryd.func70.trans (congrArg some (by kernel_rfl))
  f317 := Tryd.func93.trans (congrArg some (by kernel_rfl))
  f318 := Tryd.func94.trans (congrArg some (by kernel_rfl))
  f319 := Tryd.func95.trans (congrArg some (by kernel_rfl))
  f320 := Tryd.func96.trans (congrArg some (by kernel_rfl))
  f337 := Tryd.func103.trans (congrArg some (by kernel_rfl))
  f338 := Tryd.func104.trans (congrArg some (by kernel_rfl))
  t0 := Tryd.underlying0
  a0 := Tryd.isAgg0
  z0 := Tryd.sizeOf0
  v0 := Tryd.zeroValue0
  t2 := Tryd.underlying2
  a2 := Tryd.isAgg2
  z2 := Tryd.sizeOf2
  v2 := Tryd.zeroValue2
  t3 := Tryd.underlying3
  a3 := Tryd.isAgg3
  z3 := Tryd.sizeOf3
  v3 := Tryd.zeroValue3
  t4 := Tryd.underlying4
  a4 := Tryd.isAgg4
  z4 := Tryd.sizeOf4
  v4 := Tryd.zeroValue4
  t5 := Tryd.underlying5
  a5 := Tryd.isAgg5
  z5 := Tryd.sizeOf5
  v5 := Tryd.zeroValue5
  t9 := Tryd.underlying9
  a9 := Tryd.isAgg9
  z9 := Tryd.sizeOf9
  v9 := Tryd.zeroValue9
  t20 := Tryd.underlying20
  a20 := Tryd.isAgg20
  z20 := Tryd.sizeOf20
  v20 := Tryd.zeroValue20
  t37 := Tryd.underlying32
  a37 := Tryd.isAgg32
  z37 := Tryd.sizeOf32
  v37 := Tryd.zeroValue32
  t46 := Tryd.underlying56
  a46 := Tryd.isAgg56
  z46 := Tryd.sizeOf56
  v46 := Tryd.zeroValue56
  t51 := Tryd.underlying111
  a51 := Tryd.isAgg111
  z51 := Tryd.sizeOf111
  v51 := Tryd.zeroValue111
  t53 := Tryd.underlying94
  a53 := Tryd.isAgg94
  z53 := Tryd.sizeOf94
  v53 := Tryd.zeroValue94
  t75 := Tryd.underlying53
  a75 := Tryd.isAgg53
  z75 := Tryd.sizeOf53
  v75 := Tryd.zeroValue53
  t127 := Tryd.underlying73
  a127 := Tryd.isAgg73
  z127 := Tryd.sizeOf73
  v127 := Tryd.zeroValue73
  t143 := Tryd.underlying136
  a143 := Tryd.isAgg136
  z143 := Tryd.sizeOf136
  v143 := Tryd.zeroValue136
  t145 := Tryd.underlying138
  a145 := Tryd.isAgg138
  z145 := Tryd.sizeOf138
  v145 := Tryd.zeroValue138
  t167 := Tryd.underlying100
  a167 := Tryd.isAgg100
  z167 := Tryd.sizeOf100
  v167 := Tryd.zeroValue100
  t168 := Tryd.underlying103
  a168 := Tryd.isAgg103
  z168 := Tryd.sizeOf103
  v168 := Tryd.zeroValue103
  t171 := Tryd.underlying119
  a171 := Tryd.isAgg119
  z171 := Tryd.sizeOf119
  v171 := Tryd.zeroValue119
  t173 := Tryd.underlying122
  a173 := Tryd.isAgg122
  z173 := Tryd.sizeOf122
  v173 := Tryd.zeroValue122
  t210 := Tryd.underlying118
  a210 := Tryd.isAgg118
  z210 := Tryd.sizeOf118
  v210 := Tryd.zeroValue118
  t212 := Tryd.underlying154
  a212 := Tryd.isAgg154
  z212 := Tryd.sizeOf154
  v212 := Tryd.zeroValue154
  t213 := Tryd.underlying155
  a213 := Tryd.isAgg155
  z213 := Tryd.sizeOf155
  t232 := Tryd.underlying168
  a232 := Tryd.isAgg168
  z232 := Tryd.sizeOf168
  v232 := Tryd.zeroValue168
  t233 := Tryd.underlying169
  a233 := Tryd.isAgg169
  z233 := Tryd.sizeOf169
  v233 := Tryd.zeroValue169
  g15 := by kernel_rfl
  g16 := by kernel_rfl
  g17 := by kernel_rfl
  g18 := by kernel_rfl
  g19 := by kernel_rfl
  t80 := Tryd.underlying42
  a80 := Tryd.isAgg42
  z80 := Tryd.sizeOf42
  v80 := Tryd.zeroValue42
  i0 := by kernel_rfl
  i2 := by kernel_rfl
  i3 := by kernel_rfl
  i4 := by kernel_rfl
  i5 := by kernel_rfl
  i9 := by kernel_rfl
  i20 := by kernel_rfl
  i37 := by kernel_rfl
  i46 := by kernel_rfl
  i51 := by kernel_rfl
  i53 := by kernel_rfl
  i75 := by kernel_rfl
  i80 := by kernel_rfl
  i127 := by kernel_rfl
  i143 := by kernel_rfl
  i145 := by kernel_rfl
  i167 := by kernel_rfl
  i168 := by kernel_rfl
  i171 := by kernel_rfl
  i173 := by kernel_rfl
  i210 := by kernel_rfl
  i212 := by kernel_rfl
  i232 := by kernel_rfl
  i233 := by kernel_rfl
  m15 := by kernel_rfl
  m16 := by kernel_rfl
  m17 := by kernel_rfl
  m18 := by kernel_rfl
  m19 := by kernel_rfl
  c0 := by kernel_rfl
  c2 := by kernel_rfl
  c3 := by kernel_rfl
  c4 := by kernel_rfl
  c5 := by kernel_rfl
  c9 := by kernel_rfl
  c20 := by kernel_rfl
  c37 := by kernel_rfl
  c46 := by kernel_rfl
  c51 := by kernel_rfl
  c53 := by kernel_rfl
  c75 := by kernel_rfl
  c80 := by kernel_rfl
  c127 := by kernel_rfl
  c143 := by kernel_rfl
  c145 := by kernel_rfl
  c167 := by kernel_rfl
  c168 := by kernel_rfl
  c171 := by kernel_rfl
  c173 := by kernel_rfl
  c210 := by kernel_rfl
  c212 := by kernel_rfl
  c213 := by kernel_rfl
  c232 := by kernel_rfl
  c233 := by kernel_rfl }
open Go.RowKit in
theorem Tryd.strconv_toError_syntax (fn s : ByteArray) (base bits : Int) (ev : Value) (w : World) (hlim : s.size ≤ 281474976710656) (hv : w.cell? ⟨3, 0, none⟩ = some ev) (hev : ev = .nilIface ∨ ∃ te pe, ev = .iface te pe) :
    Calls Tryd.prog 42 #[.string fn, .string s, .int .i64 base, .int .i64 bits, .iface 100 (.int .i64 2)] w fun e w' => ∃ N, e = .returned (.iface 103 (.pointer (some ⟨N, 0, none⟩))) ∧ w.heap.size ≤ N ∧ w'.heap[N]? = some (.cells #[.string fn, .string s, ev] 118 (0, 0)) ∧ Below w.heap.size w w' := Any.strconv_toError_syntax Tryd.laysC245 fn s base bits ev w hlim hv hev
def Tryd.laysC172_ren : Go.Shelf.Ren := ⟨fun | 172 => 32 | 244 => 41 | 245 => 42 | 247 => 53 | 279 => 54 | 280 => 55 | 281 => 56 | 282 => 57 | 287 => 69 | 316 => 70 | 171 => 33 | 205 => 64 | 321 => 91 | 322 => 92 | 243 => 43 | 246 => 58 | 283 => 71 | 284 => 72 | 285 => 73 | 286 => 74 | 129 => 85 | 317 => 93 | 318 => 94 | 319 => 95 | 320 => 96 | 337 => 103 | 338 => 104 | n => n, fun | 9 => 9 | 3 => 3 | 75 => 53 | 76 => 54 | 4 => 4 | 5 => 5 | 167 => 100 | 37 => 32 | 0 => 0 | 85 => 101 | 2 => 2 | 168 => 103 | 53 => 94 | 175 => 115 | 46 => 56 | 210 => 118 | 127 => 73 | 145 => 138 | 143 => 136 | 21 => 21 | 171 => 119 | 173 => 122 | 212 => 154 | 51 => 111 | 20 => 20 | 213 => 155 | 232 => 168 | 233 => 169 | 80 => 42 | n => n, fun | 15 => 3 | 16 => 4 | 17 => 5 | 18 => 7 | 19 => 8 | n => n⟩
theorem Tryd.laysC172 : Go.Proofs.LaysC.n172 Tryd.prog Tryd.laysC172_ren := {
  mixed := by kernel_rfl
  f129 := Tryd.func85.trans (congrArg some (by kernel_rfl))
  f171 := Tryd.func33.trans (congrArg some (by kernel_rfl))
  f172 := Tryd.func32.trans (congrArg some (by kernel_rfl))
  f205 := Tryd.func64.trans (congrArg some (by kernel_rfl))
  f243 := Tryd.func43.trans (congrArg some (by kernel_rfl))
  f244 := Tryd.func41.trans (congrArg some (by kernel_rfl))
  f245 := Tryd.func42.trans (congrArg some (by kernel_rfl))
  f246 := Tryd.func58.trans (congrArg some (by kernel_rfl))
  f247 := Tryd.func53.trans (congrArg some (by kernel_rfl))
  f279 := Tryd.func54.trans (congrArg some (by kernel_rfl))
  f280 := Tryd.func55.trans (congrArg some (by kernel_rfl))
  f281 := Tryd.func56.trans (congrArg some (by kernel_rfl))
  f282 := Tryd.func57.trans (congrArg some (by kernel_rfl))
  f283 := Tryd.func71.trans (congrArg some (by kernel_rfl))
  f284 := Tryd.func72.trans (congrArg some (by kernel_rfl))
  f285 := Tryd.func73.trans (congrArg some (by kernel_rfl))
  f286 := Tryd.func74.trans (congrArg some (by kernel_rfl))
  f287 := Tryd.func69.trans (congrArg some (by kernel_rfl))
  f316 := Tryd.func70.trans (congrArg some (by kernel_rfl))
  f317 := Tryd.func93.trans (congrArg some (by kernel_rfl))
  f318 := Tryd.func94.trans (congrArg some (by kernel_rfl))
  f319 := Tryd.func95.trans (congrArg some (by kernel_rfl))
  f320 := Tryd.func96.trans (congrArg some (by kernel_rfl))
  f321 := Tryd.func91.trans (congrArg some (by kernel_rfl))
  f322 := Tryd.func92.trans (congrArg some (by kernel_rfl))
  f337 := Tryd.func103.trans (congrArg some (by kernel_rfl))
  f338 := Tryd.func104.trans (congrArg some (by kernel_rfl))
  t0 := Tryd.underlying0
  a0 := Tryd.isAgg0
  z0 := Tryd.sizeOf0
  v0 := Tryd.zeroValue0
  t2 := Tryd.underlying2
  a2 := Tryd.isAgg2
  z2 := Tryd.sizeOf2
  v2 := Tryd.zeroValue2
  t3 := Tryd.underlying3
  a3 := Tryd.isAgg3
  z3 := Tryd.sizeOf3
  v3 := Tryd.zeroValue3
  t4 := Tryd.underlying4
  a4 := Tryd.isAgg4
  z4 := Tryd.sizeOf4
  v4 := Tryd.zeroValue4
  t5 := Tryd.underlying5
  a5 := Tryd.isAgg5
  z5 := Tryd.sizeOf5
  v5 := Tryd.zeroValue5
  t9 := Tryd.underlying9
  a9 := Tryd.isAgg9
  z9 := Tryd.sizeOf9
  v9 := Tryd.zeroValue9
  t20 := Tryd.underlying20
  a20 := Tryd.isAgg20
  z20 := Tryd.sizeOf20
  v20 := Tryd.zeroValue20
  t21 := Tryd.underlying21
  a21 := Tryd.isAgg21
  z21 := Tryd.sizeOf21
  v21 := Tryd.zeroValue21
  t37 := Tryd.underlying32
  a37 := Tryd.isAgg32
  z37 := Tryd.sizeOf32
  v37 := Tryd.zeroValue32
  t46 := Tryd.underlying56
  a46 := Tryd.isAgg56
  z46 := Tryd.sizeOf56
  v46 := Tryd.zeroValue56
  t51 := Tryd.underlying111
  a51 := Tryd.isAgg111
  z51 := Tryd.sizeOf111
  v51 := Tryd.zeroValue111
  t53 := Tryd.underlying94
  a53 := Tryd.isAgg94
  z53 := Tryd.sizeOf94
  v53 := Tryd.zeroValue94
  t75 := Tryd.underlying53
  a75 := Tryd.isAgg53
  z75 := Tryd.sizeOf53
  v75 := Tryd.zeroValue53
  t76 := Tryd.underlying54
  a76 := Tryd.isAgg54
  z76 := Tryd.sizeOf54
  v76 := Tryd.zeroValue54
  t85 := Tryd.underlying101
  a85 := Tryd.isAgg101
  z85 := Tryd.sizeOf101
  v85 := Tryd.zeroValue101
  t127 := Tryd.underlying73
  a127 := Tryd.isAgg73
  z127 := Tryd.sizeOf73
  v127 := Tryd.zeroValue73
  t143 := Tryd.underlying136
  a143 := Tryd.isAgg136
  z143 := Tryd.sizeOf136
  v143 := Tryd.zeroValue136
  t145 := Tryd.underlying138
  a145 := Tryd.isAgg138
  z145 := Tryd.sizeOf138
  v145 := Tryd.zeroValue138
  t167 := Tryd.underlying100
  a167 := Tryd.isAgg100
  z167 := Tryd.sizeOf100
  v167 := Tryd.zeroValue100
  t168 := Tryd.underlying103
  a168 := Tryd.isAgg103
  z168 := Tryd.sizeOf103
  v168 := Tryd.zeroValue103
  t171 := Tryd.underlying119
  a171 := Tryd.isAgg119
  z171 := Tryd.sizeOf119
  v171 := Tryd.zeroValue119
  t173 := Tryd.underlying122
  a173 := Tryd.isAgg122
  z173 := Tryd.sizeOf122
  v173 := Tryd.zeroValue122
  t175 := Tryd.underlying115
  a175 := Tryd.isAgg115
  z175 := Tryd.sizeOf115
  v175 := Tryd.zeroValue115
  t210 := Tryd.underlying118
  a210 := Tryd.isAgg118
  z210 := Tryd.sizeOf118
  v210 := Tryd.zeroValue118
  t212 := Tryd.underlying154
  a212 := Tryd.isAgg154
  z212 := Tryd.sizeOf154
  v212 := Tryd.zeroValue154
  t213 := Tryd.underlying155
  a213 := Tryd.isAgg155
  z213 := Tryd.sizeOf155
  t232 := Tryd.underlying168
  a232 := Tryd.isAgg168
  z232 := Tryd.sizeOf168
  v232 := Tryd.zeroValue168
  t233 := Tryd.underlying169
  a233 := Tryd.isAgg169
  z233 := Tryd.sizeOf169
  v233 := Tryd.zeroValue169
  g15 := by kernel_rfl
  g16 := by kernel_rfl
  g17 := by kernel_rfl
  g18 := by kernel_rfl
  g19 := by kernel_rfl
  t80 := Tryd.underlying42
  a80 := Tryd.isAgg42
  z80 := Tryd.sizeOf42
  v80 := Tryd.zeroValue42
  i0 := by kernel_rfl
  i2 := by kernel_rfl
  i3 := by kernel_rfl
  i4 := by kernel_rfl
  i5 := by kernel_rfl
  i9 := by kernel_rfl
  i20 := by kernel_rfl
  i21 := by kernel_rfl
  i37 := by kernel_rfl
  i46 := by kernel_rfl
  i51 := by kernel_rfl
  i53 := by kernel_rfl
  i75 := by kernel_rfl
  i76 := by kernel_rfl
  i80 := by kernel_rfl
  i85 := by kernel_rfl
  i127 := by kernel_rfl
  i143 := by kernel_rfl
  i145 := by kernel_rfl
  i167 := by kernel_rfl
  i168 := by kernel_rfl
  i171 := by kernel_rfl
  i173 := by kernel_rfl
  i175 := by kernel_rfl
  i210 := by kernel_rfl
  i212 := by kernel_rfl
  i232 := by kernel_rfl
  i233 := by kernel_rfl
  m15 := by kernel_rfl
  m16 := by kernel_rfl
  m17 := by kernel_rfl
  m18 := by kernel_rfl
  m19 := by kernel_rfl
  c0 := by kernel_rfl
  c2 := by kernel_rfl
  c3 := by kernel_rfl
  c4 := by kernel_rfl
  c5 := by kernel_rfl
  c9 := by kernel_rfl
  c20 := by kernel_rfl
  c21 := by kernel_rfl
  c37 := by kernel_rfl
  c46 := by kernel_rfl
  c51 := by kernel_rfl
  c53 := by kernel_rfl
  c75 := by kernel_rfl
  c76 := by kernel_rfl
  c80 := by kernel_rfl
  c85 := by kernel_rfl
  c127 := by kernel_rfl
  c143 := by kernel_rfl
  c145 := by kernel_rfl
  c167 := by kernel_rfl
  c168 := by kernel_rfl
  c171 := by kernel_rfl
  c173 := by kernel_rfl
  c175 := by kernel_rfl
  c210 := by kernel_rfl
  c212 := by kernel_rfl
  c213 := by kernel_rfl
  c232 := by kernel_rfl
  c233 := by kernel_rfl }
open Go.RowKit in
theorem Tryd.strconv_Atoi_err (s : ByteArray) (hl : s.size ≤ 18) (h : Lib.atoi s.data.toList = none) (ev : Value) (w : World) (hv : w.cell? ⟨3, 0, none⟩ = some ev) (hev : ev = .nilIface ∨ ∃ te pe, ev = .iface te pe) :
    Calls Tryd.prog 32 #[.string s] w fun e w' => ∃ N, e = .returned (.tuple #[.int .i64 0, .iface 103 (.pointer (some ⟨N, 0, none⟩))]) ∧ w.heap.size ≤ N ∧ w'.heap[N]? = some (.cells #[.string ⟨#[65, 116, 111, 105]⟩, .string s, ev] 118 (0, 0)) ∧ Below w.heap.size w w' := Any.strconv_Atoi_err Tryd.laysC172 s hl h ev w hv hev
open Go.RowKit in
theorem Tryd.strconv_Atoi_err_var (s : ByteArray) (hl : s.size ≤ 18) (h : Lib.atoi s.data.toList = none) (tp : TypeId) (p : Value) (w : World) (hvar : w.var? Tryd.prog "strconv.ErrSyntax" = some #[.iface tp p]) :
    Calls Tryd.prog 32 #[.string s] w fun e w' => ∃ N, e = .returned (.tuple #[.int .i64 0, .iface 103 (.pointer (some ⟨N, 0, none⟩))]) ∧ w.heap.size ≤ N ∧ w'.heap[N]? = some (.cells #[.string ⟨#[65, 116, 111, 105]⟩, .string s, .iface tp p] 118 (0, 0)) ∧ Below w.heap.size w w' := Any.strconv_Atoi_err_var Tryd.laysC172 s hl h tp p w hvar
def Tryd.lays321_ren : Go.Shelf.Ren := ⟨fun | 321 => 91 | n => n, fun | 5 => 5 | n => n, fun | n => n⟩
theorem Tryd.lays321 : Go.Proofs.Lays.n321 Tryd.prog Tryd.lays321_ren := {
  mixed := by kernel_rfl
  f321 := Tryd.func91.trans (congrArg some (by kernel_rfl))
  t5 := Tryd.underlying5
  a5 := Tryd.isAgg5
  z5 := Tryd.sizeOf5
  v5 := Tryd.zeroValue5 }
open Go.RowKit in
theorem Tryd.internal_strconv_lower (c : Int) (w : World) :
    Calls Tryd.prog 91 #[.int .u8 c] w fun e w' => e = .returned (.int .u8 (bits .or .u8 c 32)) ∧ w' = w := Any.internal_strconv_lower Tryd.lays321 c w
def Tryd.lays287_ren : Go.Shelf.Ren := ⟨fun | 287 => 69 | 321 => 91 | 322 => 92 | n => n, fun | 9 => 9 | 3 => 3 | 53 => 94 | 75 => 53 | 4 => 4 | 167 => 100 | 5 => 5 | 46 => 56 | 37 => 32 | 0 => 0 | 21 => 21 | 80 => 42 | n => n, fun | n => n⟩
theorem Tryd.lays287 : Go.Proofs.Lays.n287 Tryd.prog Tryd.lays287_ren := {
  mixed := by kernel_rfl
  f287 := Tryd.func69.trans (congrArg some (by kernel_rfl))
  f321 := Tryd.func91.trans (congrArg some (by kernel_rfl))
  f322 := Tryd.func92.trans (congrArg some (by kernel_rfl))
  t0 := Tryd.underlying0
  a0 := Tryd.isAgg0
  z0 := Tryd.sizeOf0
  v0 := Tryd.zeroValue0
  t3 := Tryd.underlying3
  a3 := Tryd.isAgg3
  z3 := Tryd.sizeOf3
  v3 := Tryd.zeroValue3
  t4 := Tryd.underlying4
  a4 := Tryd.isAgg4
  z4 := Tryd.sizeOf4
  v4 := Tryd.zeroValue4
  t5 := Tryd.underlying5
  a5 := Tryd.isAgg5
  z5 := Tryd.sizeOf5
  v5 := Tryd.zeroValue5
  t9 := Tryd.underlying9
  a9 := Tryd.isAgg9
  z9 := Tryd.sizeOf9
  v9 := Tryd.zeroValue9
  t21 := Tryd.underlying21
  a21 := Tryd.isAgg21
  z21 := Tryd.sizeOf21
  v21 := Tryd.zeroValue21
  t37 := Tryd.underlying32
  a37 := Tryd.isAgg32
  z37 := Tryd.sizeOf32
  v37 := Tryd.zeroValue32
  t46 := Tryd.underlying56
  a46 := Tryd.isAgg56
  z46 := Tryd.sizeOf56
  v46 := Tryd.zeroValue56
  t53 := Tryd.underlying94
  a53 := Tryd.isAgg94
  z53 := Tryd.sizeOf94
  v53 := Tryd.zeroValue94
  t75 := Tryd.underlying53
  a75 := Tryd.isAgg53
  z75 := Tryd.sizeOf53
  v75 := Tryd.zeroValue53
  t167 := Tryd.underlying100
  a167 := Tryd.isAgg100
  z167 := Tryd.sizeOf100
  v167 := Tryd.zeroValue100 }
open Go.RowKit in
theorem Tryd.internal_strconv_ParseUint_10 (t : ByteArray) (hne : t.size ≠ 0) (hmax : t.size ≤ 9223372036854775806) (w : World) :
    Calls Tryd.prog 69 #[.string t, .int .i64 10, .int .i64 0] w fun e w' => e = .returned (Lib.uintTuple 100 (Lib.parseUint10 0 t.data.toList)) ∧ w' = Lib.bytesWorld w 5 t := Any.internal_strconv_ParseUint_10 Tryd.lays287 t hne hmax w
open Go.RowKit in
theorem Tryd.internal_strconv_ParseUint_10_empty (w : World) :
    Calls Tryd.prog 69 #[.string ⟨#[]⟩, .int .i64 10, .int .i64 0] w fun e w' => e = .returned (Lib.uintTuple 100 .syntax) ∧ w' = w := Any.internal_strconv_ParseUint_10_empty Tryd.lays287 w
open Go.RowKit in
theorem Tryd.internal_strconv_ParseUint_10_any (t : ByteArray) (hmax : t.size ≤ 9223372036854775806) (w : World) :
    Calls Tryd.prog 69 #[.string t, .int .i64 10, .int .i64 0] w fun e w' => e = .returned (Lib.uintTuple 100 (Lib.parseMag t.data.toList)) ∧ (w' = w ∨ w' = Lib.bytesWorld w 5 t) := Any.internal_strconv_ParseUint_10_any Tryd.lays287 t hmax w
def Tryd.laysC247_ren : Go.Shelf.Ren := ⟨fun | 247 => 53 | 287 => 69 | 321 => 91 | 322 => 92 | n => n, fun | 9 => 9 | 3 => 3 | 2 => 2 | 75 => 53 | 4 => 4 | 167 => 100 | 5 => 5 | 53 => 94 | 175 => 115 | 46 => 56 | 37 => 32 | 0 => 0 | 21 => 21 | 80 => 42 | n => n, fun | n => n⟩
theorem Tryd.laysC247 : Go.Proofs.LaysC.n247 Tryd.prog Tryd.laysC247_ren := {
  mixed := by kernel_rfl
  f247 := Tryd.func53.trans (congrArg some (by kernel_rfl))
  f287 := Tryd.func69.trans (congrArg some (by kernel_rfl))
  f321 := Tryd.func91.trans (congrArg some (by kernel_rfl))
  f322 := Tryd.func92.trans (congrArg some (by kernel_rfl))
  t0 := Tryd.underlying0
  a0 := Tryd.isAgg0
  z0 := Tryd.sizeOf0
  v0 := Tryd.zeroValue0
  t2 := Tryd.underlying2
  a2 := Tryd.isAgg2
  z2 := Tryd.sizeOf2
  v2 := Tryd.zeroValue2
  t3 := Tryd.underlying3
  a3 := Tryd.isAgg3
  z3 := Tryd.sizeOf3
  v3 := Tryd.zeroValue3
  t4 := Tryd.underlying4
  a4 := Tryd.isAgg4
  z4 := Tryd.sizeOf4
  v4 := Tryd.zeroValue4
  t5 := Tryd.underlying5
  a5 := Tryd.isAgg5
  z5 := Tryd.sizeOf5
  v5 := Tryd.zeroValue5
  t9 := Tryd.underlying9
  a9 := Tryd.isAgg9
  z9 := Tryd.sizeOf9
  v9 := Tryd.zeroValue9
  t21 := Tryd.underlying21
  a21 := Tryd.isAgg21
  z21 := Tryd.sizeOf21
  v21 := Tryd.zeroValue21
  t37 := Tryd.underlying32
  a37 := Tryd.isAgg32
  z37 := Tryd.sizeOf32
  v37 := Tryd.zeroValue32
  t46 := Tryd.underlying56
  a46 := Tryd.isAgg56
  z46 := Tryd.sizeOf56
  v46 := Tryd.zeroValue56
  t53 := Tryd.underlying94
  a53 := Tryd.isAgg94
  z53 := Tryd.sizeOf94
  v53 := Tryd.zeroValue94
  t75 := Tryd.underlying53
  a75 := Tryd.isAgg53
  z75 := Tryd.sizeOf53
  v75 := Tryd.zeroValue53
  t167 := Tryd.underlying100
  a167 := Tryd.isAgg100
  z167 := Tryd.sizeOf100
  v167 := Tryd.zeroValue100
  t175 := Tryd.underlying115
  a175 := Tryd.isAgg115
  z175 := Tryd.sizeOf115
  v175 := Tryd.zeroValue115
  t80 := Tryd.underlying42
  a80 := Tryd.isAgg42
  z80 := Tryd.sizeOf42
  v80 := Tryd.zeroValue42
  i0 := by kernel_rfl
  i2 := by kernel_rfl
  i3 := by kernel_rfl
  i4 := by kernel_rfl
  i5 := by kernel_rfl
  i9 := by kernel_rfl
  i21 := by kernel_rfl
  i37 := by kernel_rfl
  i46 := by kernel_rfl
  i53 := by kernel_rfl
  i75 := by kernel_rfl
  i80 := by kernel_rfl
  i167 := by kernel_rfl
  i175 := by kernel_rfl
  c0 := by kernel_rfl
  c2 := by kernel_rfl
  c3 := by kernel_rfl
  c4 := by kernel_rfl
  c5 := by kernel_rfl
  c9 := by kernel_rfl
  c21 := by kernel_rfl
  c37 := by kernel_rfl
  c46 := by kernel_rfl
  c53 := by kernel_rfl
  c75 := by kernel_rfl
  c80 := by kernel_rfl
  c167 := by kernel_rfl
  c175 := by kernel_rfl }
open Go.RowKit in
theorem Tryd.internal_strconv_ParseInt_10 (s : ByteArray) (hne : s.size ≠ 0) (hmax : s.size ≤ 9223372036854775806) (w : World) :
    Calls Tryd.prog 53 #[.string s, .int .i64 10, .int .i64 0] w fun e w' => e = .returned (Lib.intTuple 100 (Lib.atoiSat s.data.toList) (Lib.atoiAll s.data.toList)) ∧ (w' = w ∨ ∃ t, w' = Lib.bytesWorld w 5 t) := Any.internal_strconv_ParseInt_10 Tryd.laysC247 s hne hmax w
def Tryd.laysC244_ren : Go.Shelf.Ren := ⟨fun | 244 => 41 | 247 => 53 | 287 => 69 | 321 => 91 | 322 => 92 | n => n, fun | 9 => 9 | 3 => 3 | 75 => 53 | 4 => 4 | 5 => 5 | 167 => 100 | 37 => 32 | 0 => 0 | 85 => 101 | 2 => 2 | 53 => 94 | 175 => 115 | 46 => 56 | 21 => 21 | 80 => 42 | n => n, fun | n => n⟩
theorem Tryd.laysC244 : Go.Proofs.LaysC.n244 Tryd.prog Tryd.laysC244_ren := {
  mixed := by kernel_rfl
  f244 := Tryd.func41.trans (congrArg some (by kernel_rfl))
  f247 := Tryd.func53.trans (congrArg some (by kernel_rfl))
  f287 := Tryd.func69.trans (congrArg some (by kernel_rfl))
  f321 := Tryd.func91.trans (congrArg some (by kernel_rfl))
  f322 := Tryd.func92.trans (congrArg some (by kernel_rfl))
  t0 := Tryd.underlying0
  a0 := Tryd.isAgg0
  z0 := Tryd.sizeOf0
  v0 := Tryd.zeroValue0
  t2 := Tryd.underlying2
  a2 := Tryd.isAgg2
  z2 := Tryd.sizeOf2
  v2 := Tryd.zeroValue2
  t3 := Tryd.underlying3
  a3 := Tryd.isAgg3
  z3 := Tryd.sizeOf3
  v3 := Tryd.zeroValue3
  t4 := Tryd.underlying4
  a4 := Tryd.isAgg4
  z4 := Tryd.sizeOf4
  v4 := Tryd.zeroValue4
  t5 := Tryd.underlying5
  a5 := Tryd.isAgg5
  z5 := Tryd.sizeOf5
  v5 := Tryd.zeroValue5
  t9 := Tryd.underlying9
  a9 := Tryd.isAgg9
  z9 := Tryd.sizeOf9
  v9 := Tryd.zeroValue9
  t21 := Tryd.underlying21
  a21 := Tryd.isAgg21
  z21 := Tryd.sizeOf21
  v21 := Tryd.zeroValue21
  t37 := Tryd.underlying32
  a37 := Tryd.isAgg32
  z37 := Tryd.sizeOf32
  v37 := Tryd.zeroValue32
  t46 := Tryd.underlying56
  a46 := Tryd.isAgg56
  z46 := Tryd.sizeOf56
  v46 := Tryd.zeroValue56
  t53 := Tryd.underlying94
  a53 := Tryd.isAgg94
  z53 := Tryd.sizeOf94
  v53 := Tryd.zeroValue94
  t75 := Tryd.underlying53
  a75 := Tryd.isAgg53
  z75 := Tryd.sizeOf53
  v75 := Tryd.zeroValue53
  t85 := Tryd.underlying101
  a85 := Tryd.isAgg101
  z85 := Tryd.sizeOf101
  v85 := Tryd.zeroValue101
  t167 := Tryd.underlying100
  a167 := Tryd.isAgg100
  z167 := Tryd.sizeOf100
  v167 := Tryd.zeroValue100
  t175 := Tryd.underlying115
  a175 := Tryd.isAgg115
  z175 := Tryd.sizeOf115
  v175 := Tryd.zeroValue115
  t80 := Tryd.underlying42
  a80 := Tryd.isAgg42
  z80 := Tryd.sizeOf42
  v80 := Tryd.zeroValue42
  i0 := by kernel_rfl
  i2 := by kernel_rfl
  i3 := by kernel_rfl
  i4 := by kernel_rfl
  i5 := by kernel_rfl
  i9 := by kernel_rfl
  i21 := by kernel_rfl
  i37 := by kernel_rfl
  i46 := by kernel_rfl
  i53 := by kernel_rfl
  i75 := by kernel_rfl
  i80 := by kernel_rfl
  i85 := by kernel_rfl
  i167 := by kernel_rfl
  i175 := by kernel_rfl
  c0 := by kernel_rfl
  c2 := by kernel_rfl
  c3 := by kernel_rfl
  c4 := by kernel_rfl
  c5 := by kernel_rfl
  c9 := by kernel_rfl
  c21 := by kernel_rfl
  c37 := by kernel_rfl
  c46 := by kernel_rfl
  c53 := by kernel_rfl
  c75 := by kernel_rfl
  c80 := by kernel_rfl
  c85 := by kernel_rfl
  c167 := by kernel_rfl
  c175 := by kernel_rfl }
open Go.RowKit in
theorem Tryd.internal_strconv_Atoi_long (s : ByteArray) (h19 : 19 ≤ s.size) (hmax : s.size ≤ 9223372036854775806) (w : World) :
    Calls Tryd.prog 41 #[.string s] w fun e w' => e = .returned (Lib.intTuple 100 (Lib.atoiSat s.data.toList) (Lib.atoiAll s.data.toList)) ∧ (w' = w ∨ ∃ t, w' = Lib.bytesWorld w 5 t) := Any.internal_strconv_Atoi_long Tryd.laysC244 s h19 hmax w
open Go.RowKit in
theorem Tryd.internal_strconv_Atoi_all (s : ByteArray) (hmax : s.size ≤ 9223372036854775806) (w : World) :
    Calls Tryd.prog 41 #[.string s] w fun e w' => e = .returned (Lib.intTuple 100 (Lib.atoiSat s.data.toList) (Lib.atoiAll s.data.toList)) ∧ (w' = w ∨ ∃ t, w' = Lib.bytesWorld w 5 t) := Any.internal_strconv_Atoi_all Tryd.laysC244 s hmax w
def Tryd.laysM280_ren : Go.Shelf.Ren := ⟨fun | 280 => 55 | 316 => 70 | n => n, fun | 9 => 9 | 168 => 103 | 75 => 53 | 210 => 118 | 3 => 3 | 4 => 4 | 37 => 32 | 0 => 0 | 127 => 73 | 80 => 42 | 5 => 5 | n => n, fun | 16 => 4 | n => n⟩
theorem Tryd.laysM280 : Go.Proofs.LaysM.n280 Tryd.prog Tryd.laysM280_ren := {
  mixed := by kernel_rfl
  f280 := Tryd.func55.trans (congrArg some (by kernel_rfl))
  f316 := Tryd.func70.trans (congrArg some (by kernel_rfl))
  t0 := Tryd.underlying0
  a0 := Tryd.isAgg0
  z0 := Tryd.sizeOf0
  v0 := Tryd.zeroValue0
  t3 := Tryd.underlying3
  a3 := Tryd.isAgg3
  z3 := Tryd.sizeOf3
  v3 := Tryd.zeroValue3
  t4 := Tryd.underlying4
  a4 := Tryd.isAgg4
  z4 := Tryd.sizeOf4
  v4 := Tryd.zeroValue4
  t9 := Tryd.underlying9
  a9 := Tryd.isAgg9
  z9 := Tryd.sizeOf9
  v9 := Tryd.zeroValue9
  t37 := Tryd.underlying32
  a37 := Tryd.isAgg32
  z37 := Tryd.sizeOf32
  v37 := Tryd.zeroValue32
  t75 := Tryd.underlying53
  a75 := Tryd.isAgg53
  z75 := Tryd.sizeOf53
  v75 := Tryd.zeroValue53
  t127 := Tryd.underlying73
  a127 := Tryd.isAgg73
  z127 := Tryd.sizeOf73
  v127 := Tryd.zeroValue73
  t168 := Tryd.underlying103
  a168 := Tryd.isAgg103
  z168 := Tryd.sizeOf103
  v168 := Tryd.zeroValue103
  t210 := Tryd.underlying118
  a210 := Tryd.isAgg118
  z210 := Tryd.sizeOf118
  v210 := Tryd.zeroValue118
  g16 := by kernel_rfl
  t5 := Tryd.underlying5
  a5 := Tryd.isAgg5
  z5 := Tryd.sizeOf5
  v5 := Tryd.zeroValue5
  t80 := Tryd.underlying42
  a80 := Tryd.isAgg42
  z80 := Tryd.sizeOf42
  v80 := Tryd.zeroValue42
  i0 := by kernel_rfl
  i3 := by kernel_rfl
  i4 := by kernel_rfl
  i5 := by kernel_rfl
  i9 := by kernel_rfl
  i37 := by kernel_rfl
  i75 := by kernel_rfl
  i80 := by kernel_rfl
  i127 := by kernel_rfl
  i168 := by kernel_rfl
  i210 := by kernel_rfl
  m16 := by kernel_rfl }
open Go.RowKit in
theorem Tryd.strconv_rangeError (fn s : ByteArray) (ev : Value) (w : World) (hlim : s.size ≤ 281474976710656) (hv : w.cell? ⟨4, 0, none⟩ = some ev) (hev : ev = .nilIface ∨ ∃ te pe, ev = .iface te pe) :
    Calls Tryd.prog 55 #[.string fn, .string s] w fun e w' => ∃ N, e = .returned (.pointer (some ⟨N, 0, none⟩)) ∧ w.heap.size ≤ N ∧ w'.heap[N]? = some (.cells #[.string fn, .string s, ev] 118 (0, 0)) ∧ Below w.heap.size w w' := Any.strconv_rangeError Tryd.laysM280 fn s ev w hlim hv hev
open Go.RowKit in
theorem Tryd.strconv_toError_range (fn s : ByteArray) (base bits : Int) (ev : Value) (w : World) (hlim : s.size ≤ 281474976710656) (hv : w.cell? ⟨4, 0, none⟩ = some ev) (hev : ev = .nilIface ∨ ∃ te pe, ev = .iface te pe) :
    Calls Tryd.prog 42 #[.string fn, .string s, .int .i64 base, .int .i64 bits, .iface 100 (.int .i64 1)] w fun e w' => ∃ N, e = .returned (.iface 103 (.pointer (some ⟨N, 0, none⟩))) ∧ w.heap.size ≤ N ∧ w'.heap[N]? = some (.cells #[.string fn, .string s, ev] 118 (0, 0)) ∧ Below w.heap.size w w' := Any.strconv_toError_range Tryd.laysC245 fn s base bits ev w hlim hv hev
open Go.RowKit in
theorem Tryd.strconv_Atoi_ok (s : ByteArray) (hmax : s.size ≤ 9223372036854775806) (v : Int) (h : Lib.atoiAll s.data.toList = .ok v) (w : World) :
    Calls Tryd.prog 32 #[.string s] w fun e w' => e = .returned (.tuple #[.int .i64 v, .nilIface]) ∧ (w' = w ∨ ∃ t, w' = Lib.bytesWorld w 5 t) := Any.strconv_Atoi_ok Tryd.laysC172 s hmax v h w
open Go.RowKit in
theorem Tryd.strconv_Atoi_syntax (s : ByteArray) (hlim : s.size ≤ 281474976710656) (h : Lib.atoiAll s.data.toList = .«syntax») (ev : Value) (w : World) (hv : w.cell? ⟨3, 0, none⟩ = some ev) (hev : ev = .nilIface ∨ ∃ te pe, ev = .iface te pe) :
    Calls Tryd.prog 32 #[.string s] w fun e w' => ∃ N, e = .returned (.tuple #[.int .i64 (0), .iface 103 (.pointer (some ⟨N, 0, none⟩))]) ∧ w.heap.size ≤ N ∧ w'.heap[N]? = some (.cells #[.string ⟨#[65, 116, 111, 105]⟩, .string s, ev] 118 (0, 0)) ∧ Below w.heap.size w w' := Any.strconv_Atoi_syntax Tryd.laysC172 s hlim h ev w hv hev
open Go.RowKit in
theorem Tryd.strconv_Atoi_range (s : ByteArray) (hlim : s.size ≤ 281474976710656) (h : Lib.atoiAll s.data.toList = .range) (ev : Value) (w : World) (hv : w.cell? ⟨4, 0, none⟩ = some ev) (hev : ev = .nilIface ∨ ∃ te pe, ev = .iface te pe) :
    Calls Tryd.prog 32 #[.string s] w fun e w' => ∃ N, e = .returned (.tuple #[.int .i64 (Lib.atoiSat s.data.toList), .iface 103 (.pointer (some ⟨N, 0, none⟩))]) ∧ w.heap.size ≤ N ∧ w'.heap[N]? = some (.cells #[.string ⟨#[65, 116, 111, 105]⟩, .string s, ev] 118 (0, 0)) ∧ Below w.heap.size w w' := Any.strconv_Atoi_range Tryd.laysC172 s hlim h ev w hv hev
open Go.RowKit in
theorem Tryd.strconv_Atoi_syntax_var (s : ByteArray) (hlim : s.size ≤ 281474976710656) (h : Lib.atoiAll s.data.toList = .«syntax») (tp : TypeId) (p : Value) (w : World) (hvar : w.var? Tryd.prog "strconv.ErrSyntax" = some #[.iface tp p]) :
    Calls Tryd.prog 32 #[.string s] w fun e w' => ∃ N, e = .returned (.tuple #[.int .i64 0, .iface 103 (.pointer (some ⟨N, 0, none⟩))]) ∧ w.heap.size ≤ N ∧ w'.heap[N]? = some (.cells #[.string ⟨#[65, 116, 111, 105]⟩, .string s, .iface tp p] 118 (0, 0)) ∧ Below w.heap.size w w' := Any.strconv_Atoi_syntax_var Tryd.laysC172 s hlim h tp p w hvar
open Go.RowKit in
theorem Tryd.strconv_Atoi_range_var (s : ByteArray) (hlim : s.size ≤ 281474976710656) (h : Lib.atoiAll s.data.toList = .range) (tp : TypeId) (p : Value) (w : World) (hvar : w.var? Tryd.prog "strconv.ErrRange" = some #[.iface tp p]) :
    Calls Tryd.prog 32 #[.string s] w fun e w' => ∃ N, e = .returned (.tuple #[.int .i64 (Lib.atoiSat s.data.toList), .iface 103 (.pointer (some ⟨N, 0, none⟩))]) ∧ w.heap.size ≤ N ∧ w'.heap[N]? = some (.cells #[.string ⟨#[65, 116, 111, 105]⟩, .string s, .iface tp p] 118 (0, 0)) ∧ Below w.heap.size w w' := Any.strconv_Atoi_range_var Tryd.laysC172 s hlim h tp p w hvar
open Go.RowKit in
theorem Tryd.internal_strconv_ParseUint_empty (base bits : Int) (w : World) :
    Calls Tryd.prog 69 #[.string ⟨#[]⟩, .int .i64 base, .int .i64 bits] w fun e w' => e = .returned (.tuple #[.int .u64 0, .iface 100 (.int .i64 2)]) ∧ w' = w := Any.internal_strconv_ParseUint_empty Tryd.lays287 base bits w
open Go.RowKit in
theorem Tryd.internal_strconv_ParseUint_10_b64 (t : ByteArray) (hne : t.size ≠ 0) (hmax : t.size ≤ 9223372036854775806) (w : World) :
    Calls Tryd.prog 69 #[.string t, .int .i64 10, .int .i64 64] w fun e w' => e = .returned (Lib.uintTuple 100 (Lib.parseUint10 0 t.data.toList)) ∧ w' = Lib.bytesWorld w 5 t := Any.internal_strconv_ParseUint_10_b64 Tryd.lays287 t hne hmax w
open Go.RowKit in
theorem Tryd.internal_strconv_ParseUint_10_b32 (t : ByteArray) (hne : t.size ≠ 0) (hmax : t.size ≤ 9223372036854775806) (w : World) :
    Calls Tryd.prog 69 #[.string t, .int .i64 10, .int .i64 32] w fun e w' => e = .returned (Lib.uintTupleM 100 4294967295 (Lib.parseUintM 4294967295 0 t.data.toList)) ∧ w' = Lib.bytesWorld w 5 t := Any.internal_strconv_ParseUint_10_b32 Tryd.lays287 t hne hmax w
open Go.RowKit in
theorem Tryd.internal_strconv_ParseUint_10_b16 (t : ByteArray) (hne : t.size ≠ 0) (hmax : t.size ≤ 9223372036854775806) (w : World) :
    Calls Tryd.prog 69 #[.string t, .int .i64 10, .int .i64 16] w fun e w' => e = .returned (Lib.uintTupleM 100 65535 (Lib.parseUintM 65535 0 t.data.toList)) ∧ w' = Lib.bytesWorld w 5 t := Any.internal_strconv_ParseUint_10_b16 Tryd.lays287 t hne hmax w
open Go.RowKit in
theorem Tryd.internal_strconv_ParseUint_10_b8 (t : ByteArray) (hne : t.size ≠ 0) (hmax : t.size ≤ 9223372036854775806) (w : World) :
    Calls Tryd.prog 69 #[.string t, .int .i64 10, .int .i64 8] w fun e w' => e = .returned (Lib.uintTupleM 100 255 (Lib.parseUintM 255 0 t.data.toList)) ∧ w' = Lib.bytesWorld w 5 t := Any.internal_strconv_ParseUint_10_b8 Tryd.lays287 t hne hmax w
open Go.RowKit in
theorem Tryd.internal_strconv_ParseUint_10_at0 (t : ByteArray) (hmax : t.size ≤ 9223372036854775806) (w : World) :
    Calls Tryd.prog 69 #[.string t, .int .i64 10, .int .i64 0] w fun e w' => e = .returned (Lib.uintTupleM 100 18446744073709551615 (Lib.parseUintB 64 t.data.toList)) ∧ (w' = w ∨ w' = Lib.bytesWorld w 5 t) := Any.internal_strconv_ParseUint_10_at0 Tryd.lays287 t hmax w
open Go.RowKit in
theorem Tryd.internal_strconv_ParseUint_10_at64 (t : ByteArray) (hmax : t.size ≤ 9223372036854775806) (w : World) :
    Calls Tryd.prog 69 #[.string t, .int .i64 10, .int .i64 64] w fun e w' => e = .returned (Lib.uintTupleM 100 18446744073709551615 (Lib.parseUintB 64 t.data.toList)) ∧ (w' = w ∨ w' = Lib.bytesWorld w 5 t) := Any.internal_strconv_ParseUint_10_at64 Tryd.lays287 t hmax w
open Go.RowKit in
theorem Tryd.internal_strconv_ParseUint_10_at32 (t : ByteArray) (hmax : t.size ≤ 9223372036854775806) (w : World) :
    Calls Tryd.prog 69 #[.string t, .int .i64 10, .int .i64 32] w fun e w' => e = .returned (Lib.uintTupleM 100 4294967295 (Lib.parseUintB 32 t.data.toList)) ∧ (w' = w ∨ w' = Lib.bytesWorld w 5 t) := Any.internal_strconv_ParseUint_10_at32 Tryd.lays287 t hmax w
open Go.RowKit in
theorem Tryd.internal_strconv_ParseUint_10_at16 (t : ByteArray) (hmax : t.size ≤ 9223372036854775806) (w : World) :
    Calls Tryd.prog 69 #[.string t, .int .i64 10, .int .i64 16] w fun e w' => e = .returned (Lib.uintTupleM 100 65535 (Lib.parseUintB 16 t.data.toList)) ∧ (w' = w ∨ w' = Lib.bytesWorld w 5 t) := Any.internal_strconv_ParseUint_10_at16 Tryd.lays287 t hmax w
open Go.RowKit in
theorem Tryd.internal_strconv_ParseUint_10_at8 (t : ByteArray) (hmax : t.size ≤ 9223372036854775806) (w : World) :
    Calls Tryd.prog 69 #[.string t, .int .i64 10, .int .i64 8] w fun e w' => e = .returned (Lib.uintTupleM 100 255 (Lib.parseUintB 8 t.data.toList)) ∧ (w' = w ∨ w' = Lib.bytesWorld w 5 t) := Any.internal_strconv_ParseUint_10_at8 Tryd.lays287 t hmax w
open Go.RowKit in
theorem Tryd.internal_strconv_ParseInt_10_at64 (s : ByteArray) (hne : s.size ≠ 0) (hmax : s.size ≤ 9223372036854775806) (w : World) :
    Calls Tryd.prog 53 #[.string s, .int .i64 10, .int .i64 64] w fun e w' => e = .returned (Lib.intTuple 100 (Lib.intSat 64 s.data.toList) (Lib.parseIntB 64 s.data.toList)) ∧ (w' = w ∨ ∃ t, w' = Lib.bytesWorld w 5 t) := Any.internal_strconv_ParseInt_10_at64 Tryd.laysC247 s hne hmax w
open Go.RowKit in
theorem Tryd.internal_strconv_ParseInt_10_at32 (s : ByteArray) (hne : s.size ≠ 0) (hmax : s.size ≤ 9223372036854775806) (w : World) :
    Calls Tryd.prog 53 #[.string s, .int .i64 10, .int .i64 32] w fun e w' => e = .returned (Lib.intTuple 100 (Lib.intSat 32 s.data.toList) (Lib.parseIntB 32 s.data.toList)) ∧ (w' = w ∨ ∃ t, w' = Lib.bytesWorld w 5 t) := Any.internal_strconv_ParseInt_10_at32 Tryd.laysC247 s hne hmax w
open Go.RowKit in
theorem Tryd.internal_strconv_ParseInt_10_at16 (s : ByteArray) (hne : s.size ≠ 0) (hmax : s.size ≤ 9223372036854775806) (w : World) :
    Calls Tryd.prog 53 #[.string s, .int .i64 10, .int .i64 16] w fun e w' => e = .returned (Lib.intTuple 100 (Lib.intSat 16 s.data.toList) (Lib.parseIntB 16 s.data.toList)) ∧ (w' = w ∨ ∃ t, w' = Lib.bytesWorld w 5 t) := Any.internal_strconv_ParseInt_10_at16 Tryd.laysC247 s hne hmax w
open Go.RowKit in
theorem Tryd.internal_strconv_ParseInt_10_at8 (s : ByteArray) (hne : s.size ≠ 0) (hmax : s.size ≤ 9223372036854775806) (w : World) :
    Calls Tryd.prog 53 #[.string s, .int .i64 10, .int .i64 8] w fun e w' => e = .returned (Lib.intTuple 100 (Lib.intSat 8 s.data.toList) (Lib.parseIntB 8 s.data.toList)) ∧ (w' = w ∨ ∃ t, w' = Lib.bytesWorld w 5 t) := Any.internal_strconv_ParseInt_10_at8 Tryd.laysC247 s hne hmax w
open Go.RowKit in
theorem Tryd.internal_strconv_ParseInt_10_all0 (s : ByteArray) (hmax : s.size ≤ 9223372036854775806) (w : World) :
    Calls Tryd.prog 53 #[.string s, .int .i64 10, .int .i64 0] w fun e w' => e = .returned (Lib.intTuple 100 (Lib.intSat 64 s.data.toList) (Lib.parseIntB 64 s.data.toList)) ∧ (w' = w ∨ ∃ t, w' = Lib.bytesWorld w 5 t) := Any.internal_strconv_ParseInt_10_all0 Tryd.laysC247 s hmax w
open Go.RowKit in
theorem Tryd.internal_strconv_ParseInt_10_all64 (s : ByteArray) (hmax : s.size ≤ 9223372036854775806) (w : World) :
    Calls Tryd.prog 53 #[.string s, .int .i64 10, .int .i64 64] w fun e w' => e = .returned (Lib.intTuple 100 (Lib.intSat 64 s.data.toList) (Lib.parseIntB 64 s.data.toList)) ∧ (w' = w ∨ ∃ t, w' = Lib.bytesWorld w 5 t) := Any.internal_strconv_ParseInt_10_all64 Tryd.laysC247 s hmax w
open Go.RowKit in
theorem Tryd.internal_strconv_ParseInt_10_all32 (s : ByteArray) (hmax : s.size ≤ 9223372036854775806) (w : World) :
    Calls Tryd.prog 53 #[.string s, .int .i64 10, .int .i64 32] w fun e w' => e = .returned (Lib.intTuple 100 (Lib.intSat 32 s.data.toList) (Lib.parseIntB 32 s.data.toList)) ∧ (w' = w ∨ ∃ t, w' = Lib.bytesWorld w 5 t) := Any.internal_strconv_ParseInt_10_all32 Tryd.laysC247 s hmax w
open Go.RowKit in
theorem Tryd.internal_strconv_ParseInt_10_all16 (s : ByteArray) (hmax : s.size ≤ 9223372036854775806) (w : World) :
    Calls Tryd.prog 53 #[.string s, .int .i64 10, .int .i64 16] w fun e w' => e = .returned (Lib.intTuple 100 (Lib.intSat 16 s.data.toList) (Lib.parseIntB 16 s.data.toList)) ∧ (w' = w ∨ ∃ t, w' = Lib.bytesWorld w 5 t) := Any.internal_strconv_ParseInt_10_all16 Tryd.laysC247 s hmax w
open Go.RowKit in
theorem Tryd.internal_strconv_ParseInt_10_all8 (s : ByteArray) (hmax : s.size ≤ 9223372036854775806) (w : World) :
    Calls Tryd.prog 53 #[.string s, .int .i64 10, .int .i64 8] w fun e w' => e = .returned (Lib.intTuple 100 (Lib.intSat 8 s.data.toList) (Lib.parseIntB 8 s.data.toList)) ∧ (w' = w ∨ ∃ t, w' = Lib.bytesWorld w 5 t) := Any.internal_strconv_ParseInt_10_all8 Tryd.laysC247 s hmax w
def Tryd.lays190_ren : Go.Shelf.Ren := ⟨fun | 190 => 45 | 125 => 61 | 258 => 60 | 128 => 84 | 129 => 85 | 302 => 75 | 303 => 76 | 304 => 77 | 305 => 78 | 306 => 79 | 307 => 80 | 308 => 81 | 309 => 82 | 310 => 83 | 333 => 97 | 329 => 98 | 330 => 99 | 334 => 100 | 335 => 101 | 336 => 102 | 344 => 105 | n => n, fun | 31 => 25 | 9 => 9 | 3 => 3 | 46 => 56 | 0 => 0 | 51 => 111 | 53 => 94 | 4 => 4 | 183 => 126 | 182 => 125 | 131 => 130 | 5 => 5 | 218 => 157 | 222 => 161 | 228 => 165 | 229 => 166 | n => n, fun | n => n⟩
theorem Tryd.lays190 : Go.Proofs.Lays.n190 Tryd.prog Tryd.lays190_ren := {
  mixed := by kernel_rfl
  f125 := Tryd.func61.trans (congrArg some (by kernel_rfl))
  f128 := Tryd.func84.trans (congrArg some (by kernel_rfl))
  f129 := Tryd.func85.trans (congrArg some (by kernel_rfl))
  f190 := Tryd.func45.trans (congrArg some (by kernel_rfl))
  f258 := Tryd.func60.trans (congrArg some (by kernel_rfl))
  f302 := Tryd.func75.trans (congrArg some (by kernel_rfl))
  f303 := Tryd.func76.trans (congrArg some (by kernel_rfl))
  f304 := Tryd.func77.trans (congrArg some (by kernel_rfl))
  f305 := Tryd.func78.trans (congrArg some (by kernel_rfl))
  f306 := Tryd.func79.trans (congrArg some (by kernel_rfl))
  f307 := Tryd.func80.trans (congrArg some (by kernel_rfl))
  f308 := Tryd.func81.trans (congrArg some (by kernel_rfl))
  f309 := Tryd.func82.trans (congrArg some (by kernel_rfl))
  f310 := Tryd.func83.trans (congrArg some (by kernel_rfl))
  f329 := Tryd.func98.trans (congrArg some (by kernel_rfl))
  f330 := Tryd.func99.trans (congrArg some (by kernel_rfl))
  f333 := Tryd.func97.trans (congrArg some (by kernel_rfl))
  f334 := Tryd.func100.trans (congrArg some (by kernel_rfl))
  f335 := Tryd.func101.trans (congrArg some (by kernel_rfl))
  f336 := Tryd.func102.trans (congrArg some (by kernel_rfl))
  f344 := Tryd.func105.trans (congrArg some (by kernel_rfl))
  t0 := Tryd.underlying0
  a0 := Tryd.isAgg0
  z0 := Tryd.sizeOf0
  v0 := Tryd.zeroValue0
  t3 := Tryd.underlying3
  a3 := Tryd.isAgg3
  z3 := Tryd.sizeOf3
  v3 := Tryd.zeroValue3
  t4 := Tryd.underlying4
  a4 := Tryd.isAgg4
  z4 := Tryd.sizeOf4
  v4 := Tryd.zeroValue4
  t5 := Tryd.underlying5
  a5 := Tryd.isAgg5
  z5 := Tryd.sizeOf5
  v5 := Tryd.zeroValue5
  t9 := Tryd.underlying9
  a9 := Tryd.isAgg9
  z9 := Tryd.sizeOf9
  v9 := Tryd.zeroValue9
  t31 := Tryd.underlying25
  a31 := Tryd.isAgg25
  z31 := Tryd.sizeOf25
  v31 := Tryd.zeroValue25
  t46 := Tryd.underlying56
  a46 := Tryd.isAgg56
  z46 := Tryd.sizeOf56
  v46 := Tryd.zeroValue56
  t51 := Tryd.underlying111
  a51 := Tryd.isAgg111
  z51 := Tryd.sizeOf111
  v51 := Tryd.zeroValue111
  t53 := Tryd.underlying94
  a53 := Tryd.isAgg94
  z53 := Tryd.sizeOf94
  v53 := Tryd.zeroValue94
  t131 := Tryd.underlying130
  a131 := Tryd.isAgg130
  z131 := Tryd.sizeOf130
  v131 := Tryd.zeroValue130
  t182 := Tryd.underlying125
  a182 := Tryd.isAgg125
  z182 := Tryd.sizeOf125
  v182 := Tryd.zeroValue125
  t183 := Tryd.underlying126
  a183 := Tryd.isAgg126
  z183 := Tryd.sizeOf126
  v183 := Tryd.zeroValue126
  t218 := Tryd.underlying157
  a218 := Tryd.isAgg157
  z218 := Tryd.sizeOf157
  v218 := Tryd.zeroValue157
  t222 := Tryd.underlying161
  a222 := Tryd.isAgg161
  z222 := Tryd.sizeOf161
  v222 := Tryd.zeroValue161
  t228 := Tryd.underlying165
  a228 := Tryd.isAgg165
  z228 := Tryd.sizeOf165
  v228 := Tryd.zeroValue165
  t229 := Tryd.underlying166
  a229 := Tryd.isAgg166
  z229 := Tryd.sizeOf166
  v229 := Tryd.zeroValue166 }
open Go.Sort Go.RowKit in
theorem Tryd.slices_Sort_string (blk off cap : Nat) (ss : List (List UInt8)) (w : World) (hH : Holds encStr w blk off ss.toArray) (hblk : blk < w.heap.size) (hsz : ss.length < 4611686018427387904) :
    Calls Tryd.prog 45 #[.slice (some ⟨blk, off, none⟩) ss.length cap] w fun e w' =>
      e = .returned (.tuple #[]) ∧ ∃ n os, w' = grow (putRow encStr (Sort.ahead w n) blk off (ss.mergeSort fun x y => decide (x ≤ y)).toArray) os := Any.slices_Sort_string Tryd.lays190 blk off cap ss w hH hblk hsz
def Tryd.lays192_ren : Go.Shelf.Ren := ⟨fun | 192 => 35 | 190 => 45 | 125 => 61 | 258 => 60 | 128 => 84 | 129 => 85 | 302 => 75 | 303 => 76 | 304 => 77 | 305 => 78 | 306 => 79 | 307 => 80 | 308 => 81 | 309 => 82 | 310 => 83 | 333 => 97 | 329 => 98 | 330 => 99 | 334 => 100 | 335 => 101 | 336 => 102 | 344 => 105 | n => n, fun | 31 => 25 | 0 => 0 | 9 => 9 | 3 => 3 | 46 => 56 | 51 => 111 | 53 => 94 | 4 => 4 | 183 => 126 | 182 => 125 | 131 => 130 | 5 => 5 | 218 => 157 | 222 => 161 | 228 => 165 | 229 => 166 | n => n, fun | n => n⟩
theorem Tryd.lays192 : Go.Proofs.Lays.n192 Tryd.prog Tryd.lays192_ren := {
  mixed := by kernel_rfl
  f125 := Tryd.func61.trans (congrArg some (by kernel_rfl))
  f128 := Tryd.func84.trans (congrArg some (by kernel_rfl))
  f129 := Tryd.func85.trans (congrArg some (by kernel_rfl))
  f190 := Tryd.func45.trans (congrArg some (by kernel_rfl))
  f192 := Tryd.func35.trans (congrArg some (by kernel_rfl))
  f258 := Tryd.func60.trans (congrArg some (by kernel_rfl))
  f302 := Tryd.func75.trans (congrArg some (by kernel_rfl))
  f303 := Tryd.func76.trans (congrArg some (by kernel_rfl))
  f304 := Tryd.func77.trans (congrArg some (by kernel_rfl))
  f305 := Tryd.func78.trans (congrArg some (by kernel_rfl))
  f306 := Tryd.func79.trans (congrArg some (by kernel_rfl))
  f307 := Tryd.func80.trans (congrArg some (by kernel_rfl))
  f308 := Tryd.func81.trans (congrArg some (by kernel_rfl))
  f309 := Tryd.func82.trans (congrArg some (by kernel_rfl))
  f310 := Tryd.func83.trans (congrArg some (by kernel_rfl))
  f329 := Tryd.func98.trans (congrArg some (by kernel_rfl))
  f330 := Tryd.func99.trans (congrArg some (by kernel_rfl))
  f333 := Tryd.func97.trans (congrArg some (by kernel_rfl))
  f334 := Tryd.func100.trans (congrArg some (by kernel_rfl))
  f335 := Tryd.func101.trans (congrArg some (by kernel_rfl))
  f336 := Tryd.func102.trans (congrArg some (by kernel_rfl))
  f344 := Tryd.func105.trans (congrArg some (by kernel_rfl))
  t0 := Tryd.underlying0
  a0 := Tryd.isAgg0
  z0 := Tryd.sizeOf0
  v0 := Tryd.zeroValue0
  t3 := Tryd.underlying3
  a3 := Tryd.isAgg3
  z3 := Tryd.sizeOf3
  v3 := Tryd.zeroValue3
  t4 := Tryd.underlying4
  a4 := Tryd.isAgg4
  z4 := Tryd.sizeOf4
  v4 := Tryd.zeroValue4
  t5 := Tryd.underlying5
  a5 := Tryd.isAgg5
  z5 := Tryd.sizeOf5
  v5 := Tryd.zeroValue5
  t9 := Tryd.underlying9
  a9 := Tryd.isAgg9
  z9 := Tryd.sizeOf9
  v9 := Tryd.zeroValue9
  t31 := Tryd.underlying25
  a31 := Tryd.isAgg25
  z31 := Tryd.sizeOf25
  v31 := Tryd.zeroValue25
  t46 := Tryd.underlying56
  a46 := Tryd.isAgg56
  z46 := Tryd.sizeOf56
  v46 := Tryd.zeroValue56
  t51 := Tryd.underlying111
  a51 := Tryd.isAgg111
  z51 := Tryd.sizeOf111
  v51 := Tryd.zeroValue111
  t53 := Tryd.underlying94
  a53 := Tryd.isAgg94
  z53 := Tryd.sizeOf94
  v53 := Tryd.zeroValue94
  t131 := Tryd.underlying130
  a131 := Tryd.isAgg130
  z131 := Tryd.sizeOf130
  v131 := Tryd.zeroValue130
  t182 := Tryd.underlying125
  a182 := Tryd.isAgg125
  z182 := Tryd.sizeOf125
  v182 := Tryd.zeroValue125
  t183 := Tryd.underlying126
  a183 := Tryd.isAgg126
  z183 := Tryd.sizeOf126
  v183 := Tryd.zeroValue126
  t218 := Tryd.underlying157
  a218 := Tryd.isAgg157
  z218 := Tryd.sizeOf157
  v218 := Tryd.zeroValue157
  t222 := Tryd.underlying161
  a222 := Tryd.isAgg161
  z222 := Tryd.sizeOf161
  v222 := Tryd.zeroValue161
  t228 := Tryd.underlying165
  a228 := Tryd.isAgg165
  z228 := Tryd.sizeOf165
  v228 := Tryd.zeroValue165
  t229 := Tryd.underlying166
  a229 := Tryd.isAgg166
  z229 := Tryd.sizeOf166
  v229 := Tryd.zeroValue166 }
open Go.Sort Go.RowKit in
theorem Tryd.sort_Strings (blk off cap : Nat) (ss : List (List UInt8)) (w : World) (hH : Holds encStr w blk off ss.toArray) (hblk : blk < w.heap.size) (hsz : ss.length < 4611686018427387904) :
    Calls Tryd.prog 35 #[.slice (some ⟨blk, off, none⟩) ss.length cap] w fun e w' =>
      e = .returned (.tuple #[]) ∧ ∃ n os, w' = grow (putRow encStr (Sort.ahead w n) blk off (ss.mergeSort fun x y => decide (x ≤ y)).toArray) os := Any.sort_Strings Tryd.lays192 blk off cap ss w hH hblk hsz
def Tryd.lays199_ren : Go.Shelf.Ren := ⟨fun | 199 => 50 | 261 => 67 | 311 => 88 | 312 => 89 | n => n, fun | 21 => 21 | 4 => 4 | 51 => 111 | 141 => 113 | 0 => 0 | 196 => 142 | 193 => 139 | 3 => 3 | 198 => 145 | 49 => 143 | 194 => 140 | 201 => 148 | 226 => 163 | 46 => 56 | 227 => 164 | n => n, fun | 6 => 2 | n => n⟩
theorem Tryd.lays199 : Go.Proofs.Lays.n199 Tryd.prog Tryd.lays199_ren := {
  mixed := by kernel_rfl
  f199 := Tryd.func50.trans (congrArg some (by kernel_rfl))
  f261 := Tryd.func67.trans (congrArg some (by kernel_rfl))
  f311 := Tryd.func88.trans (congrArg some (by kernel_rfl))
  f312 := Tryd.func89.trans (congrArg some (by kernel_rfl))
  t0 := Tryd.underlying0
  a0 := Tryd.isAgg0
  z0 := Tryd.sizeOf0
  v0 := Tryd.zeroValue0
  t3 := Tryd.underlying3
  a3 := Tryd.isAgg3
  z3 := Tryd.sizeOf3
  v3 := Tryd.zeroValue3
  t4 := Tryd.underlying4
  a4 := Tryd.isAgg4
  z4 := Tryd.sizeOf4
  v4 := Tryd.zeroValue4
  t21 := Tryd.underlying21
  a21 := Tryd.isAgg21
  z21 := Tryd.sizeOf21
  v21 := Tryd.zeroValue21
  t46 := Tryd.underlying56
  a46 := Tryd.isAgg56
  z46 := Tryd.sizeOf56
  v46 := Tryd.zeroValue56
  t49 := Tryd.underlying143
  a49 := Tryd.isAgg143
  z49 := Tryd.sizeOf143
  v49 := Tryd.zeroValue143
  t51 := Tryd.underlying111
  a51 := Tryd.isAgg111
  z51 := Tryd.sizeOf111
  v51 := Tryd.zeroValue111
  t141 := Tryd.underlying113
  a141 := Tryd.isAgg113
  z141 := Tryd.sizeOf113
  v141 := Tryd.zeroValue113
  t193 := Tryd.underlying139
  a193 := Tryd.isAgg139
  z193 := Tryd.sizeOf139
  v193 := Tryd.zeroValue139
  t194 := Tryd.underlying140
  a194 := Tryd.isAgg140
  z194 := Tryd.sizeOf140
  v194 := Tryd.zeroValue140
  t196 := Tryd.underlying142
  a196 := Tryd.isAgg142
  z196 := Tryd.sizeOf142
  v196 := Tryd.zeroValue142
  t198 := Tryd.underlying145
  a198 := Tryd.isAgg145
  z198 := Tryd.sizeOf145
  v198 := Tryd.zeroValue145
  t201 := Tryd.underlying148
  a201 := Tryd.isAgg148
  z201 := Tryd.sizeOf148
  v201 := Tryd.zeroValue148
  t226 := Tryd.underlying163
  a226 := Tryd.isAgg163
  z226 := Tryd.sizeOf163
  v226 := Tryd.zeroValue163
  t227 := Tryd.underlying164
  a227 := Tryd.isAgg164
  z227 := Tryd.sizeOf164
  v227 := Tryd.zeroValue164
  g6 := by kernel_rfl }
open Go.RowKit Go.Lib in
theorem Tryd.unicode_IsSpace (r : Int) (w : World) (h0 : 0 ≤ r) (h : r ≤ 255) :
    Calls Tryd.prog 50 #[.int .i32 r] w fun e w' => e = .returned (.bool (Lib.isSpaceL r)) ∧ w' = w := Any.unicode_IsSpace Tryd.lays199 r w h0 h
def Tryd.lays197_ren : Go.Shelf.Ren := ⟨fun | 197 => 49 | 260 => 66 | n => n, fun | 9 => 9 | 21 => 21 | 3 => 3 | 4 => 4 | 5 => 5 | 105 => 95 | 119 => 81 | 0 => 0 | 46 => 56 | 139 => 84 | 138 => 83 | n => n, fun | 3 => 0 | 4 => 1 | n => n⟩
theorem Tryd.lays197 : Go.Proofs.Lays.n197 Tryd.prog Tryd.lays197_ren := {
  mixed := by kernel_rfl
  f197 := Tryd.func49.trans (congrArg some (by kernel_rfl))
  f260 := Tryd.func66.trans (congrArg some (by kernel_rfl))
  t0 := Tryd.underlying0
  a0 := Tryd.isAgg0
  z0 := Tryd.sizeOf0
  v0 := Tryd.zeroValue0
  t3 := Tryd.underlying3
  a3 := Tryd.isAgg3
  z3 := Tryd.sizeOf3
  v3 := Tryd.zeroValue3
  t4 := Tryd.underlying4
  a4 := Tryd.isAgg4
  z4 := Tryd.sizeOf4
  v4 := Tryd.zeroValue4
  t5 := Tryd.underlying5
  a5 := Tryd.isAgg5
  z5 := Tryd.sizeOf5
  v5 := Tryd.zeroValue5
  t9 := Tryd.underlying9
  a9 := Tryd.isAgg9
  z9 := Tryd.sizeOf9
  v9 := Tryd.zeroValue9
  t21 := Tryd.underlying21
  a21 := Tryd.isAgg21
  z21 := Tryd.sizeOf21
  v21 := Tryd.zeroValue21
  t46 := Tryd.underlying56
  a46 := Tryd.isAgg56
  z46 := Tryd.sizeOf56
  v46 := Tryd.zeroValue56
  t105 := Tryd.underlying95
  a105 := Tryd.isAgg95
  z105 := Tryd.sizeOf95
  v105 := Tryd.zeroValue95
  t119 := Tryd.underlying81
  a119 := Tryd.isAgg81
  z119 := Tryd.sizeOf81
  t138 := Tryd.underlying83
  a138 := Tryd.isAgg83
  z138 := Tryd.sizeOf83
  v138 := Tryd.zeroValue83
  t139 := Tryd.underlying84
  a139 := Tryd.isAgg84
  z139 := Tryd.sizeOf84
  v139 := Tryd.zeroValue84
  g3 := by kernel_rfl
  g4 := by kernel_rfl }
open Go.RowKit Go.Lib in
theorem Tryd.utf8_DecodeRuneInString_ascii (s : ByteArray) (x : UInt8) (w : World) (h0 : s.data.toList[0]? = some x) (hx : x.toNat < 128) :
    Calls Tryd.prog 49 #[.string s] w fun e w' => e = .returned (.tuple #[.int .i32 x.toNat, .int .i64 1]) ∧ w' = w := Any.utf8_DecodeRuneInString_ascii Tryd.lays197 s x w h0 hx
def Tryd.lays260_ren : Go.Shelf.Ren := ⟨fun | 260 => 66 | n => n, fun | 9 => 9 | 21 => 21 | 3 => 3 | 4 => 4 | 5 => 5 | 119 => 81 | 0 => 0 | 46 => 56 | 139 => 84 | 138 => 83 | n => n, fun | 3 => 0 | 4 => 1 | n => n⟩
theorem Tryd.lays260 : Go.Proofs.Lays.n260 Tryd.prog Tryd.lays260_ren := {
  mixed := by kernel_rfl
  f260 := Tryd.func66.trans (congrArg some (by kernel_rfl))
  t0 := Tryd.underlying0
  a0 := Tryd.isAgg0
  z0 := Tryd.sizeOf0
  v0 := Tryd.zeroValue0
  t3 := Tryd.underlying3
  a3 := Tryd.isAgg3
  z3 := Tryd.sizeOf3
  v3 := Tryd.zeroValue3
  t4 := Tryd.underlying4
  a4 := Tryd.isAgg4
  z4 := Tryd.sizeOf4
  v4 := Tryd.zeroValue4
  t5 := Tryd.underlying5
  a5 := Tryd.isAgg5
  z5 := Tryd.sizeOf5
  v5 := Tryd.zeroValue5
  t9 := Tryd.underlying9
  a9 := Tryd.isAgg9
  z9 := Tryd.sizeOf9
  v9 := Tryd.zeroValue9
  t21 := Tryd.underlying21
  a21 := Tryd.isAgg21
  z21 := Tryd.sizeOf21
  v21 := Tryd.zeroValue21
  t46 := Tryd.underlying56
  a46 := Tryd.isAgg56
  z46 := Tryd.sizeOf56
  v46 := Tryd.zeroValue56
  t119 := Tryd.underlying81
  a119 := Tryd.isAgg81
  z119 := Tryd.sizeOf81
  t138 := Tryd.underlying83
  a138 := Tryd.isAgg83
  z138 := Tryd.sizeOf83
  v138 := Tryd.zeroValue83
  t139 := Tryd.underlying84
  a139 := Tryd.isAgg84
  z139 := Tryd.sizeOf84
  v139 := Tryd.zeroValue84
  g3 := by kernel_rfl
  g4 := by kernel_rfl }
open Go.RowKit Go.Lib in
theorem Tryd.utf8_decodeRuneInStringSlow (s : ByteArray) (w : World) (hT : Lib.Utf8Tabs 0 1 w) :
    Calls Tryd.prog 66 #[.string s] w fun e w' => e = .returned (.tuple #[.int .i32 (Lib.decodeGo s).1, .int .i64 (Lib.decodeGo s).2]) ∧ Below w.heap.size w w' := Any.utf8_decodeRuneInStringSlow Tryd.lays260 s w hT
open Go.RowKit Go.Lib in
theorem Tryd.utf8_DecodeRuneInString (s : ByteArray) (w : World) (hT : Lib.Utf8Tabs 0 1 w) :
    Calls Tryd.prog 49 #[.string s] w fun e w' => e = .returned (.tuple #[.int .i32 (Lib.decodeGo s).1, .int .i64 (Lib.decodeGo s).2]) ∧ Below w.heap.size w w' := Any.utf8_DecodeRuneInString Tryd.lays197 s w hT
def Tryd.lays311_ren : Go.Shelf.Ren := ⟨fun | 311 => 88 | n => n, fun | 193 => 139 | 49 => 143 | 4 => 4 | 3 => 3 | 0 => 0 | 226 => 163 | 198 => 145 | 46 => 56 | n => n, fun | n => n⟩
theorem Tryd.lays311 : Go.Proofs.Lays.n311 Tryd.prog Tryd.lays311_ren := {
  mixed := by kernel_rfl
  f311 := Tryd.func88.trans (congrArg some (by kernel_rfl))
  t0 := Tryd.underlying0
  a0 := Tryd.isAgg0
  z0 := Tryd.sizeOf0
  v0 := Tryd.zeroValue0
  t3 := Tryd.underlying3
  a3 := Tryd.isAgg3
  z3 := Tryd.sizeOf3
  v3 := Tryd.zeroValue3
  t4 := Tryd.underlying4
  a4 := Tryd.isAgg4
  z4 := Tryd.sizeOf4
  v4 := Tryd.zeroValue4
  t46 := Tryd.underlying56
  a46 := Tryd.isAgg56
  z46 := Tryd.sizeOf56
  v46 := Tryd.zeroValue56
  t49 := Tryd.underlying143
  a49 := Tryd.isAgg143
  z49 := Tryd.sizeOf143
  v49 := Tryd.zeroValue143
  t193 := Tryd.underlying139
  a193 := Tryd.isAgg139
  z193 := Tryd.sizeOf139
  v193 := Tryd.zeroValue139
  t198 := Tryd.underlying145
  a198 := Tryd.isAgg145
  z198 := Tryd.sizeOf145
  v198 := Tryd.zeroValue145
  t226 := Tryd.underlying163
  a226 := Tryd.isAgg163
  z226 := Tryd.sizeOf163
  v226 := Tryd.zeroValue163 }
open Go.RowKit Go.Lib in
theorem Tryd.unicode_is16_white (R oR : Nat) (z : Nat) (w : World) (hz : z < 65536) (hz0 : 255 < z) (c6 : w.cell? ⟨R, oR + 6, none⟩ = some (.int .u16 160)) (c7 : w.cell? ⟨R, oR + 7, none⟩ = some (.int .u16 5760)) (c8 : w.cell? ⟨R, oR + 8, none⟩ = some (.int .u16 5600)) (c9 : w.cell? ⟨R, oR + 9, none⟩ = some (.int .u16 8192)) (c10 : w.cell? ⟨R, oR + 10, none⟩ = some (.int .u16 8202)) (c11 : w.cell? ⟨R, oR + 11, none⟩ = some (.int .u16 1)) (c12 : w.cell? ⟨R, oR + 12, none⟩ = some (.int .u16 8232)) (c13 : w.cell? ⟨R, oR + 13, none⟩ = some (.int .u16 8233)) (c14 : w.cell? ⟨R, oR + 14, none⟩ = some (.int .u16 1)) (c15 : w.cell? ⟨R, oR + 15, none⟩ = some (.int .u16 8239)) (c16 : w.cell? ⟨R, oR + 16, none⟩ = some (.int .u16 8287)) (c17 : w.cell? ⟨R, oR + 17, none⟩ = some (.int .u16 48)) (c18 : w.cell? ⟨R, oR + 18, none⟩ = some (.int .u16 12288)) (c19 : w.cell? ⟨R, oR + 19, none⟩ = some (.int .u16 12288)) (c20 : w.cell? ⟨R, oR + 20, none⟩ = some (.int .u16 1)) :
    Calls Tryd.prog 88 #[.slice (some ⟨R, oR + 6, none⟩) 5 5, .int .u16 z] w fun e w' => e = .returned (.bool (Lib.isSpaceR z)) ∧ Below w.heap.size w w' := Any.unicode_is16_white Tryd.lays311 R oR z w hz hz0 c6 c7 c8 c9 c10 c11 c12 c13 c14 c15 c16 c17 c18 c19 c20
def Tryd.lays261_ren : Go.Shelf.Ren := ⟨fun | 261 => 67 | 311 => 88 | 312 => 89 | n => n, fun | 141 => 113 | 21 => 21 | 4 => 4 | 0 => 0 | 196 => 142 | 193 => 139 | 3 => 3 | 51 => 111 | 198 => 145 | 49 => 143 | 194 => 140 | 201 => 148 | 226 => 163 | 46 => 56 | 227 => 164 | n => n, fun | n => n⟩
theorem Tryd.lays261 : Go.Proofs.Lays.n261 Tryd.prog Tryd.lays261_ren := {
  mixed := by kernel_rfl
  f261 := Tryd.func67.trans (congrArg some (by kernel_rfl))
  f311 := Tryd.func88.trans (congrArg some (by kernel_rfl))
  f312 := Tryd.func89.trans (congrArg some (by kernel_rfl))
  t0 := Tryd.underlying0
  a0 := Tryd.isAgg0
  z0 := Tryd.sizeOf0
  v0 := Tryd.zeroValue0
  t3 := Tryd.underlying3
  a3 := Tryd.isAgg3
  z3 := Tryd.sizeOf3
  v3 := Tryd.zeroValue3
  t4 := Tryd.underlying4
  a4 := Tryd.isAgg4
  z4 := Tryd.sizeOf4
  v4 := Tryd.zeroValue4
  t21 := Tryd.underlying21
  a21 := Tryd.isAgg21
  z21 := Tryd.sizeOf21
  v21 := Tryd.zeroValue21
  t46 := Tryd.underlying56
  a46 := Tryd.isAgg56
  z46 := Tryd.sizeOf56
  v46 := Tryd.zeroValue56
  t49 := Tryd.underlying143
  a49 := Tryd.isAgg143
  z49 := Tryd.sizeOf143
  v49 := Tryd.zeroValue143
  t51 := Tryd.underlying111
  a51 := Tryd.isAgg111
  z51 := Tryd.sizeOf111
  v51 := Tryd.zeroValue111
  t141 := Tryd.underlying113
  a141 := Tryd.isAgg113
  z141 := Tryd.sizeOf113
  v141 := Tryd.zeroValue113
  t193 := Tryd.underlying139
  a193 := Tryd.isAgg139
  z193 := Tryd.sizeOf139
  v193 := Tryd.zeroValue139
  t194 := Tryd.underlying140
  a194 := Tryd.isAgg140
  z194 := Tryd.sizeOf140
  v194 := Tryd.zeroValue140
  t196 := Tryd.underlying142
  a196 := Tryd.isAgg142
  z196 := Tryd.sizeOf142
  v196 := Tryd.zeroValue142
  t198 := Tryd.underlying145
  a198 := Tryd.isAgg145
  z198 := Tryd.sizeOf145
  v198 := Tryd.zeroValue145
  t201 := Tryd.underlying148
  a201 := Tryd.isAgg148
  z201 := Tryd.sizeOf148
  v201 := Tryd.zeroValue148
  t226 := Tryd.underlying163
  a226 := Tryd.isAgg163
  z226 := Tryd.sizeOf163
  v226 := Tryd.zeroValue163
  t227 := Tryd.underlying164
  a227 := Tryd.isAgg164
  z227 := Tryd.sizeOf164
  v227 := Tryd.zeroValue164 }
open Go.RowKit Go.Lib in
theorem Tryd.unicode_isExcludingLatin_white (T oT R oR : Nat) (r : Int) (w : World) (hlo : -2147483648 ≤ r) (hhi : r ≤ 2147483647) (hr : r < 0 ∨ 255 < r) (h2 : w.cell? ⟨T, oT, none⟩ = some (.slice (some ⟨R, oR, none⟩) 7 7)) (h3 : w.cell? ⟨T, oT + 1, none⟩ = some (.slice none 0 0)) (h4 : w.cell? ⟨T, oT + 2, none⟩ = some (.int .i64 2)) (h5 : ∀ i, i < 21 → w.cell? ⟨R, oR + i, none⟩ = some (.int .u16 (whiteT.getD i 0))) :
    Calls Tryd.prog 67 #[.pointer (some ⟨T, oT, none⟩), .int .i32 r] w fun e w' => e = .returned (.bool (Lib.isSpaceZ r)) ∧ Below w.heap.size w w' := Any.unicode_isExcludingLatin_white Tryd.lays261 T oT R oR r w hlo hhi hr h2 h3 h4 h5
open Go.RowKit Go.Lib in
theorem Tryd.unicode_IsSpace_any (r : Int) (w : World) (hlo : -2147483648 ≤ r) (hhi : r ≤ 2147483647) (hW : Lib.WhiteTab 2 w) :
    Calls Tryd.prog 50 #[.int .i32 r] w fun e w' => e = .returned (.bool (Lib.isSpaceZ r)) ∧ Below w.heap.size w w' := Any.unicode_IsSpace_any Tryd.lays199 r w hlo hhi hW
open Go.RowKit Go.Lib in
theorem Tryd.unicode_is16_white_d (R oR : Nat) (z : Nat) (w : World) (hz : z < 65536) (hz0 : 255 < z) (c6 : w.cell? ⟨R, oR + 6, none⟩ = some (.int .u16 160)) (c7 : w.cell? ⟨R, oR + 7, none⟩ = some (.int .u16 5760)) (c8 : w.cell? ⟨R, oR + 8, none⟩ = some (.int .u16 5600)) (c9 : w.cell? ⟨R, oR + 9, none⟩ = some (.int .u16 8192)) (c10 : w.cell? ⟨R, oR + 10, none⟩ = some (.int .u16 8202)) (c11 : w.cell? ⟨R, oR + 11, none⟩ = some (.int .u16 1)) (c12 : w.cell? ⟨R, oR + 12, none⟩ = some (.int .u16 8232)) (c13 : w.cell? ⟨R, oR + 13, none⟩ = some (.int .u16 8233)) (c14 : w.cell? ⟨R, oR + 14, none⟩ = some (.int .u16 1)) (c15 : w.cell? ⟨R, oR + 15, none⟩ = some (.int .u16 8239)) (c16 : w.cell? ⟨R, oR + 16, none⟩ = some (.int .u16 8287)) (c17 : w.cell? ⟨R, oR + 17, none⟩ = some (.int .u16 48)) (c18 : w.cell? ⟨R, oR + 18, none⟩ = some (.int .u16 12288)) (c19 : w.cell? ⟨R, oR + 19, none⟩ = some (.int .u16 12288)) (c20 : w.cell? ⟨R, oR + 20, none⟩ = some (.int .u16 1)) :
    Calls Tryd.prog 88 #[.slice (some ⟨R, oR + 6, none⟩) 5 5, .int .u16 z] w fun e w' => e = .returned (.bool (Lib.isSpaceR z)) ∧ ∃ q, w' = w.drewN q := Any.unicode_is16_white_d Tryd.lays311 R oR z w hz hz0 c6 c7 c8 c9 c10 c11 c12 c13 c14 c15 c16 c17 c18 c19 c20
open Go.RowKit Go.Lib in
theorem Tryd.unicode_isExcludingLatin_white_d (T oT R oR : Nat) (r : Int) (w : World) (hlo : -2147483648 ≤ r) (hhi : r ≤ 2147483647) (hr : r < 0 ∨ 255 < r) (h2 : w.cell? ⟨T, oT, none⟩ = some (.slice (some ⟨R, oR, none⟩) 7 7)) (h3 : w.cell? ⟨T, oT + 1, none⟩ = some (.slice none 0 0)) (h4 : w.cell? ⟨T, oT + 2, none⟩ = some (.int .i64 2)) (h5 : ∀ i, i < 21 → w.cell? ⟨R, oR + i, none⟩ = some (.int .u16 (whiteT.getD i 0))) :
    Calls Tryd.prog 67 #[.pointer (some ⟨T, oT, none⟩), .int .i32 r] w fun e w' => e = .returned (.bool (Lib.isSpaceZ r)) ∧ ∃ q, w' = w.drewN q := Any.unicode_isExcludingLatin_white_d Tryd.lays261 T oT R oR r w hlo hhi hr h2 h3 h4 h5
open Go.RowKit Go.Lib in
theorem Tryd.unicode_IsSpace_any_d (r : Int) (w : World) (hlo : -2147483648 ≤ r) (hhi : r ≤ 2147483647) (hW : Lib.WhiteTab 2 w) :
    Calls Tryd.prog 50 #[.int .i32 r] w fun e w' => e = .returned (.bool (Lib.isSpaceZ r)) ∧ ∃ q, w' = w.drewN q := Any.unicode_IsSpace_any_d Tryd.lays199 r w hlo hhi hW
open Go.RowKit Go.Lib in
theorem Tryd.unicode_is16_any (T : Array Rg) (R oR cap : Nat) (z : Nat) (w : World) (hz : z < 65536) (hT : RgTab .u16 R oR T w) (hok : RgOk 65536 T) (hn : T.size ≤ 1000000000) :
    Calls Tryd.prog 88 #[.slice (some ⟨R, oR, none⟩) T.size cap, .int .u16 z] w fun e w' => e = .returned (.bool (is16Go T z)) ∧ ∃ q, w' = w.drewN q := Any.unicode_is16_any Tryd.lays311 T R oR cap z w hz hT hok hn
def Tryd.lays312_ren : Go.Shelf.Ren := ⟨fun | 312 => 89 | n => n, fun | 194 => 140 | 51 => 111 | 4 => 4 | 3 => 3 | 0 => 0 | 227 => 164 | 201 => 148 | 46 => 56 | n => n, fun | n => n⟩
theorem Tryd.lays312 : Go.Proofs.Lays.n312 Tryd.prog Tryd.lays312_ren := {
  mixed := by kernel_rfl
  f312 := Tryd.func89.trans (congrArg some (by kernel_rfl))
  t0 := Tryd.underlying0
  a0 := Tryd.isAgg0
  z0 := Tryd.sizeOf0
  v0 := Tryd.zeroValue0
  t3 := Tryd.underlying3
  a3 := Tryd.isAgg3
  z3 := Tryd.sizeOf3
  v3 := Tryd.zeroValue3
  t4 := Tryd.underlying4
  a4 := Tryd.isAgg4
  z4 := Tryd.sizeOf4
  v4 := Tryd.zeroValue4
  t46 := Tryd.underlying56
  a46 := Tryd.isAgg56
  z46 := Tryd.sizeOf56
  v46 := Tryd.zeroValue56
  t51 := Tryd.underlying111
  a51 := Tryd.isAgg111
  z51 := Tryd.sizeOf111
  v51 := Tryd.zeroValue111
  t194 := Tryd.underlying140
  a194 := Tryd.isAgg140
  z194 := Tryd.sizeOf140
  v194 := Tryd.zeroValue140
  t201 := Tryd.underlying148
  a201 := Tryd.isAgg148
  z201 := Tryd.sizeOf148
  v201 := Tryd.zeroValue148
  t227 := Tryd.underlying164
  a227 := Tryd.isAgg164
  z227 := Tryd.sizeOf164
  v227 := Tryd.zeroValue164 }
open Go.RowKit Go.Lib in
theorem Tryd.unicode_is32_any (T : Array Rg) (R oR cap : Nat) (z : Nat) (w : World) (hz : z < 4294967296) (hT : RgTab .u32 R oR T w) (hok : RgOk 4294967296 T) (hn : T.size ≤ 1000000000) :
    Calls Tryd.prog 89 #[.slice (some ⟨R, oR, none⟩) T.size cap, .int .u32 z] w fun e w' => e = .returned (.bool (is32Go T z)) ∧ Below w.heap.size w w' := Any.unicode_is32_any Tryd.lays312 T R oR cap z w hz hT hok hn
open Go.RowKit Go.Lib in
theorem Tryd.unicode_isExcludingLatin_any (Tb oT : Nat) (T : RTab) (r : Int) (w : World) (hlo : -2147483648 ≤ r) (hhi : r ≤ 2147483647) (hA : RTabAt Tb oT T w) (hok : RTabOk T) :
    Calls Tryd.prog 67 #[.pointer (some ⟨Tb, oT, none⟩), .int .i32 r] w fun e w' => e = .returned (.bool (exclGo T r)) ∧ Below w.heap.size w w' := Any.unicode_isExcludingLatin_any Tryd.lays261 Tb oT T r w hlo hhi hA hok
open Go.RowKit Go.Sort in
theorem Tryd.slices_Sort_string_none (p : Option Addr) (cap : Nat) (w : World) :
    Calls Tryd.prog 45 #[.slice p 0 cap] w fun e w' => e = .returned (.tuple #[]) ∧ w' = w := Any.slices_Sort_string_none Tryd.lays190 p cap w
open Go.RowKit Go.Sort in
theorem Tryd.sort_Strings_none (p : Option Addr) (cap : Nat) (w : World) :
    Calls Tryd.prog 35 #[.slice p 0 cap] w fun e w' => e = .returned (.tuple #[]) ∧ w' = w := Any.sort_Strings_none Tryd.lays192 p cap w
def Tryd.lays196_ren : Go.Shelf.Ren := ⟨fun | 196 => 29 | 259 => 38 | n => n, fun | 9 => 9 | 4 => 4 | 3 => 3 | 5 => 5 | 12 => 12 | 119 => 81 | 0 => 0 | 46 => 56 | 139 => 84 | 138 => 83 | 53 => 94 | n => n, fun | 3 => 0 | 4 => 1 | n => n⟩
theorem Tryd.lays196 : Go.Proofs.Lays.n196 Tryd.prog Tryd.lays196_ren := {
  mixed := by kernel_rfl
  f196 := Tryd.func29.trans (congrArg some (by kernel_rfl))
  f259 := Tryd.func38.trans (congrArg some (by kernel_rfl))
  t0 := Tryd.underlying0
  a0 := Tryd.isAgg0
  z0 := Tryd.sizeOf0
  v0 := Tryd.zeroValue0
  t3 := Tryd.underlying3
  a3 := Tryd.isAgg3
  z3 := Tryd.sizeOf3
  v3 := Tryd.zeroValue3
  t4 := Tryd.underlying4
  a4 := Tryd.isAgg4
  z4 := Tryd.sizeOf4
  v4 := Tryd.zeroValue4
  t5 := Tryd.underlying5
  a5 := Tryd.isAgg5
  z5 := Tryd.sizeOf5
  v5 := Tryd.zeroValue5
  t9 := Tryd.underlying9
  a9 := Tryd.isAgg9
  z9 := Tryd.sizeOf9
  v9 := Tryd.zeroValue9
  t12 := Tryd.underlying12
  a12 := Tryd.isAgg12
  z12 := Tryd.sizeOf12
  v12 := Tryd.zeroValue12
  t46 := Tryd.underlying56
  a46 := Tryd.isAgg56
  z46 := Tryd.sizeOf56
  v46 := Tryd.zeroValue56
  t53 := Tryd.underlying94
  a53 := Tryd.isAgg94
  z53 := Tryd.sizeOf94
  v53 := Tryd.zeroValue94
  t119 := Tryd.underlying81
  a119 := Tryd.isAgg81
  z119 := Tryd.sizeOf81
  t138 := Tryd.underlying83
  a138 := Tryd.isAgg83
  z138 := Tryd.sizeOf83
  v138 := Tryd.zeroValue83
  t139 := Tryd.underlying84
  a139 := Tryd.isAgg84
  z139 := Tryd.sizeOf84
  v139 := Tryd.zeroValue84
  g3 := by kernel_rfl
  g4 := by kernel_rfl }
open Go.RowKit Go.Lib in
theorem Tryd.utf8_ValidString (s : ByteArray) (w : World) (hs : s.size ≤ 9223372036854775807) (hT : Lib.Utf8Tabs 0 1 w) :
    Calls Tryd.prog 29 #[.string s] w fun e w' => e = .returned (.bool (Lib.validD s.data.toList)) ∧ Below w.heap.size w w' := Any.utf8_ValidString Tryd.lays196 s w hs hT
def Tryd.lays240_ren : Go.Shelf.Ren := ⟨fun | 240 => 62 | 276 => 86 | n => n, fun | 0 => 0 | 4 => 4 | 9 => 9 | 20 => 20 | 70 => 49 | 72 => 51 | 37 => 32 | 164 => 133 | n => n, fun n => n⟩
theorem Tryd.lays240 : Go.Proofs.Lays.n240 Tryd.prog Tryd.lays240_ren := {
  mixed := by kernel_rfl
  f240 := Tryd.func62.trans (congrArg some (by kernel_rfl))
  f276 := Tryd.func86.trans (congrArg some (by kernel_rfl))
  t0 := Tryd.underlying0
  a0 := Tryd.isAgg0
  z0 := Tryd.sizeOf0
  v0 := Tryd.zeroValue0
  t4 := Tryd.underlying4
  a4 := Tryd.isAgg4
  z4 := Tryd.sizeOf4
  v4 := Tryd.zeroValue4
  t9 := Tryd.underlying9
  a9 := Tryd.isAgg9
  z9 := Tryd.sizeOf9
  v9 := Tryd.zeroValue9
  t20 := Tryd.underlying20
  a20 := Tryd.isAgg20
  z20 := Tryd.sizeOf20
  v20 := Tryd.zeroValue20
  t70 := Tryd.underlying49
  a70 := Tryd.isAgg49
  z70 := Tryd.sizeOf49
  v70 := Tryd.zeroValue49
  t72 := Tryd.underlying51
  a72 := Tryd.isAgg51
  z72 := Tryd.sizeOf51
  v72 := Tryd.zeroValue51
  t164 := Tryd.underlying133
  a164 := Tryd.isAgg133
  z164 := Tryd.sizeOf133
  v164 := Tryd.zeroValue133 }
theorem Tryd.Builder_X72_240 : Builder.X72 Tryd.prog Tryd.lays240_ren := {
  sizeBuilder := by kernel_rfl
  liesBuilder := by kernel_rfl }
open Go.RowKit in
theorem Tryd.Builder_copyCheck (B b : Nat) (bs : List Value) (w : World) (h : Lib.IsBuilder 51 5 B b bs w) :
    Calls Tryd.prog 62 #[.pointer (some ⟨b, 0, none⟩)] w fun e w' => e = .returned (.tuple #[]) ∧ (Lib.BuilderAt 51 5 B b (.pointer (some ⟨b, 0, none⟩)) bs w' ∧ Below B w w') := Any.Builder_copyCheck Tryd.lays240 Tryd.Builder_X72_240 B b bs w h
def Tryd.lays166_ren : Go.Shelf.Ren := ⟨fun | 166 => 47 | 240 => 62 | 276 => 86 | n => n, fun | 0 => 0 | 3 => 3 | 4 => 4 | 9 => 9 | 20 => 20 | 37 => 32 | 5 => 5 | 70 => 49 | 72 => 51 | 75 => 53 | 80 => 42 | 164 => 133 | n => n, fun n => n⟩
theorem Tryd.lays166 : Go.Proofs.Lays.n166 Tryd.prog Tryd.lays166_ren := {
  mixed := by kernel_rfl
  f166 := Tryd.func47.trans (congrArg some (by kernel_rfl))
  f240 := Tryd.func62.trans (congrArg some (by kernel_rfl))
  f276 := Tryd.func86.trans (congrArg some (by kernel_rfl))
  t0 := Tryd.underlying0
  a0 := Tryd.isAgg0
  z0 := Tryd.sizeOf0
  v0 := Tryd.zeroValue0
  t3 := Tryd.underlying3
  a3 := Tryd.isAgg3
  z3 := Tryd.sizeOf3
  v3 := Tryd.zeroValue3
  t4 := Tryd.underlying4
  a4 := Tryd.isAgg4
  z4 := Tryd.sizeOf4
  v4 := Tryd.zeroValue4
  t9 := Tryd.underlying9
  a9 := Tryd.isAgg9
  z9 := Tryd.sizeOf9
  v9 := Tryd.zeroValue9
  t20 := Tryd.underlying20
  a20 := Tryd.isAgg20
  z20 := Tryd.sizeOf20
  v20 := Tryd.zeroValue20
  t37 := Tryd.underlying32
  a37 := Tryd.isAgg32
  z37 := Tryd.sizeOf32
  v37 := Tryd.zeroValue32
  t70 := Tryd.underlying49
  a70 := Tryd.isAgg49
  z70 := Tryd.sizeOf49
  v70 := Tryd.zeroValue49
  t72 := Tryd.underlying51
  a72 := Tryd.isAgg51
  z72 := Tryd.sizeOf51
  v72 := Tryd.zeroValue51
  t75 := Tryd.underlying53
  a75 := Tryd.isAgg53
  z75 := Tryd.sizeOf53
  v75 := Tryd.zeroValue53
  t164 := Tryd.underlying133
  a164 := Tryd.isAgg133
  z164 := Tryd.sizeOf133
  v164 := Tryd.zeroValue133 }
theorem Tryd.Builder_Extra_166 : Builder.Extra Tryd.prog Tryd.lays166_ren := {
  sizeBuilder := by kernel_rfl
  liesBuilder := by kernel_rfl
  t5 := Tryd.underlying5
  a5 := Tryd.isAgg5
  z5 := Tryd.sizeOf5
  v5 := Tryd.zeroValue5
  infoByte := by kernel_rfl
  cellsByte := by kernel_rfl
  sizeByte := by kernel_rfl
  neB5 := by decide }
open Go.RowKit in
theorem Tryd.Builder_WriteString (B b : Nat) (bs : List Value) (s : ByteArray) (w : World) (h : Lib.IsBuilder 51 5 B b bs w) (hlen : bs.length + s.size ≤ 140737488355328) (hBw : B ≤ w.heap.size) :
    Calls Tryd.prog 47 #[.pointer (some ⟨b, 0, none⟩), .string s] w fun e w' => e = .returned (.tuple #[.int .i64 s.size, .nilIface]) ∧ (Lib.BuilderAt 51 5 B b (.pointer (some ⟨b, 0, none⟩)) (bs ++ Lib.strCells s) w' ∧ Below B w w') := Any.Builder_WriteString Tryd.lays166 Tryd.Builder_Extra_166 B b bs s w h hlen hBw
open Go.RowKit in
theorem Tryd.Builder_copyCheck_f (B b : Nat) (bs : List Value) (w : World) (h : Lib.IsBuilderF 51 5 B b bs w) :
    Calls Tryd.prog 62 #[.pointer (some ⟨b, 0, none⟩)] w fun e w' => e = .returned (.tuple #[]) ∧ (Lib.BuilderAtF 51 5 B b (.pointer (some ⟨b, 0, none⟩)) bs w' ∧ Below B w w') := Any.Builder_copyCheck_f Tryd.lays240 Tryd.Builder_X72_240 B b bs w h
open Go.RowKit in
theorem Tryd.Builder_WriteString_f (B b : Nat) (bs : List Value) (s : ByteArray) (w : World) (h : Lib.IsBuilderF 51 5 B b bs w) (hlen : bs.length + s.size ≤ 140737488355328) (hBw : B ≤ w.heap.size) :
    Calls Tryd.prog 47 #[.pointer (some ⟨b, 0, none⟩), .string s] w fun e w' => e = .returned (.tuple #[.int .i64 s.size, .nilIface]) ∧ (Lib.BuilderAtF 51 5 B b (.pointer (some ⟨b, 0, none⟩)) (bs ++ Lib.strCells s) w' ∧ Below B w w') := Any.Builder_WriteString_f Tryd.lays166 Tryd.Builder_Extra_166 B b bs s w h hlen hBw
open Go.RowKit in
theorem Tryd.Builder_copyCheck_k (B b : Nat) (bs : List Value) (w : World) (h : Lib.IsBuilderF 51 5 B b bs w) :
    Calls Tryd.prog 62 #[.pointer (some ⟨b, 0, none⟩)] w fun e w' => e = .returned (.tuple #[]) ∧ (Lib.BuilderAtF 51 5 B b (.pointer (some ⟨b, 0, none⟩)) bs w' ∧ Below B w w' ∧ Lib.OthersKept 5 (some b) w w') := Any.Builder_copyCheck_k Tryd.lays240 Tryd.Builder_X72_240 B b bs w h
open Go.RowKit in
theorem Tryd.Builder_WriteString_k (B b : Nat) (bs : List Value) (s : ByteArray) (w : World) (h : Lib.IsBuilderF 51 5 B b bs w) (hlen : bs.length + s.size ≤ 140737488355328) (hBw : B ≤ w.heap.size) :
    Calls Tryd.prog 47 #[.pointer (some ⟨b, 0, none⟩), .string s] w fun e w' => e = .returned (.tuple #[.int .i64 s.size, .nilIface]) ∧ (Lib.BuilderAtF 51 5 B b (.pointer (some ⟨b, 0, none⟩)) (bs ++ Lib.strCells s) w' ∧ Below B w w' ∧ Lib.OthersKept 5 (some b) w w') := Any.Builder_WriteString_k Tryd.lays166 Tryd.Builder_Extra_166 B b bs s w h hlen hBw
open Go.RowKit in
theorem Tryd.Builder_copyCheck_kc (B b : Nat) (bs : List Value) (w : World) (h : Lib.IsBuilderF 51 5 B b bs w) :
    Calls Tryd.prog 62 #[.pointer (some ⟨b, 0, none⟩)] w fun e w' => e = .returned (.tuple #[]) ∧ (Lib.BuilderAtF 51 5 B b (.pointer (some ⟨b, 0, none⟩)) bs w' ∧ Below B w w' ∧ Lib.OthersKept 5 (some b) w w') ∧ w'.cell? ⟨b, 1, none⟩ = w.cell? ⟨b, 1, none⟩ := Any.Builder_copyCheck_kc Tryd.lays240 Tryd.Builder_X72_240 B b bs w h
open Go.RowKit in
theorem Tryd.Builder_WriteString_kc (B b : Nat) (bs : List Value) (s : ByteArray) (w : World) (h : Lib.IsBuilderF 51 5 B b bs w) (hlen : bs.length + s.size ≤ 140737488355328) (hBw : B ≤ w.heap.size) :
    Calls Tryd.prog 47 #[.pointer (some ⟨b, 0, none⟩), .string s] w fun e w' => e = .returned (.tuple #[.int .i64 s.size, .nilIface]) ∧ (Lib.BuilderAtF 51 5 B b (.pointer (some ⟨b, 0, none⟩)) (bs ++ Lib.strCells s) w' ∧ Below B w w' ∧ Lib.OthersKept 5 (some b) w w') ∧ ∀ v0, w.cell? ⟨b, 1, none⟩ = some v0 → ∃ v1, w'.cell? ⟨b, 1, none⟩ = some v1 ∧ v0.capOf ≤ v1.capOf := Any.Builder_WriteString_kc Tryd.lays166 Tryd.Builder_Extra_166 B b bs s w h hlen hBw
end Go.Proofs
