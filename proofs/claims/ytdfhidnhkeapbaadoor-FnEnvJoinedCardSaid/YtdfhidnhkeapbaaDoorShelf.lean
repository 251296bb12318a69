/- The contracts of Go's library at this seat's translation, laid by the shelf's own commands in plain words; no condition of our own. -/
import Derived.Shelf.Small.Utf8
import Derived.Shelf.Small.Bits
import Derived.Shelf.Strconv.Itoa0
import Derived.Shelf.Sort.Plain
import Derived.Shelf.Strings.Prefix
import Derived.Shelf.Unicode.Latin
import Derived.Shelf.Unicode.Props
import Derived.Shelf.LaysM
import Derived.Shelf.Unicode.PropsLaid
import Derived.Shelf.Unicode.Decode
import Derived.Shelf.Unicode.DecodeSlow
import Derived.Shelf.Unicode.DecodeAny
import Derived.Shelf.Unicode.Is16White
import Derived.Shelf.Unicode.IsSpaceAny
import Derived.Shelf.Unicode.DecodeLast
import Derived.Shelf.Unicode.Is16WhiteD
import Derived.Shelf.Unicode.Is16Any
import Derived.Shelf.Unicode.Is32Any
import Derived.Shelf.Unicode.ExclAny
import Derived.Shelf.Unicode.PredsAny
import Derived.Shelf.Slices.In.SortNone
import Derived.Shelf.Slices.In.SortNone2
import Derived.Shelf.Bytes.SlSearch0
import Derived.Shelf.Bytes.SlSmallAll
import Derived.Shelf.Bytes.SlEqualAll
import Derived.Shelf.Bytes.Small
import Derived.Test.YtdfhidnhkeapbaaDoorProg
namespace Go.Proofs
open Go.Shelf
def Tryd.lays120_ren : Go.Shelf.Ren := ⟨fun | 120 => 102 | n => n, fun | 5 => 5 | 4 => 4 | n => n, fun | n => n⟩
theorem Tryd.lays120 : Go.Proofs.Lays.n120 Tryd.prog Tryd.lays120_ren := {
  mixed := by kernel_rfl
  f120 := Tryd.func102.trans (congrArg some (by kernel_rfl))
  t4 := Tryd.underlying4
  a4 := Tryd.isAgg4
  z4 := Tryd.sizeOf4
  v4 := Tryd.zeroValue4
  t5 := Tryd.underlying5
  a5 := Tryd.isAgg5
  z5 := Tryd.sizeOf5
  v5 := Tryd.zeroValue5 }
theorem Tryd.utf8_RuneStart (b : Int) (w : World) (h0 : 0 ≤ b) (h1 : b < 256) :
    Calls Tryd.prog 102 #[.int .u8 b] w fun e w' => e = .returned (.bool (Lib.runeStart b)) ∧ w' = w := Any.utf8_RuneStart Tryd.lays120 b w h0 h1
def Tryd.lays128_ren : Go.Shelf.Ren := ⟨fun | 128 => 69 | n => n, fun | 51 => 90 | 3 => 3 | 4 => 4 | 46 => 66 | 5 => 5 | 9 => 9 | n => n, fun | n => n⟩
theorem Tryd.lays128 : Go.Proofs.Lays.n128 Tryd.prog Tryd.lays128_ren := {
  mixed := by kernel_rfl
  f128 := Tryd.func69.trans (congrArg some (by kernel_rfl))
  t3 := Tryd.underlying3
  a3 := Tryd.isAgg3
  z3 := Tryd.sizeOf3
  v3 := Tryd.zeroValue3
  t4 := Tryd.underlying4
  a4 := Tryd.isAgg4
  z4 := Tryd.sizeOf4
  v4 := Tryd.zeroValue4
  t5 := Tryd.underlying5
  a5 := Tryd.isAgg5
  z5 := Tryd.sizeOf5
  v5 := Tryd.zeroValue5
  t9 := Tryd.underlying9
  a9 := Tryd.isAgg9
  z9 := Tryd.sizeOf9
  v9 := Tryd.zeroValue9
  t46 := Tryd.underlying66
  a46 := Tryd.isAgg66
  z46 := Tryd.sizeOf66
  v46 := Tryd.zeroValue66
  t51 := Tryd.underlying90
  a51 := Tryd.isAgg90
  z51 := Tryd.sizeOf90
  v51 := Tryd.zeroValue90 }
theorem Tryd.bits_Len32 (x : Int) (w : World) (h0 : 0 ≤ x) (h1 : x ≤ 4294967295) :
    Calls Tryd.prog 69 #[.int .u32 x] w fun e w' => e = .returned (.int .i64 (Lib.bitLen x.toNat)) ∧ w' = w := Any.bits_Len32 Tryd.lays128 x w h0 h1
def Tryd.lays125_ren : Go.Shelf.Ren := ⟨fun | 125 => 40 | 128 => 69 | 129 => 70 | n => n, fun | 46 => 66 | 3 => 3 | 51 => 90 | 53 => 92 | 4 => 4 | 5 => 5 | 9 => 9 | n => n, fun | n => n⟩
theorem Tryd.lays125 : Go.Proofs.Lays.n125 Tryd.prog Tryd.lays125_ren := {
  mixed := by kernel_rfl
  f125 := Tryd.func40.trans (congrArg some (by kernel_rfl))
  f128 := Tryd.func69.trans (congrArg some (by kernel_rfl))
  f129 := Tryd.func70.trans (congrArg some (by kernel_rfl))
  t3 := Tryd.underlying3
  a3 := Tryd.isAgg3
  z3 := Tryd.sizeOf3
  v3 := Tryd.zeroValue3
  t4 := Tryd.underlying4
  a4 := Tryd.isAgg4
  z4 := Tryd.sizeOf4
  v4 := Tryd.zeroValue4
  t5 := Tryd.underlying5
  a5 := Tryd.isAgg5
  z5 := Tryd.sizeOf5
  v5 := Tryd.zeroValue5
  t9 := Tryd.underlying9
  a9 := Tryd.isAgg9
  z9 := Tryd.sizeOf9
  v9 := Tryd.zeroValue9
  t46 := Tryd.underlying66
  a46 := Tryd.isAgg66
  z46 := Tryd.sizeOf66
  v46 := Tryd.zeroValue66
  t51 := Tryd.underlying90
  a51 := Tryd.isAgg90
  z51 := Tryd.sizeOf90
  v51 := Tryd.zeroValue90
  t53 := Tryd.underlying92
  a53 := Tryd.isAgg92
  z53 := Tryd.sizeOf92
  v53 := Tryd.zeroValue92 }
theorem Tryd.bits_Len (x : Int) (w : World) (h0 : 0 ≤ x) (h1 : x ≤ 18446744073709551615) :
    Calls Tryd.prog 40 #[.int .u64 x] w fun e w' => e = .returned (.int .i64 (Lib.bitLen x.toNat)) ∧ w' = w := Any.bits_Len Tryd.lays125 x w h0 h1
def Tryd.lays129_ren : Go.Shelf.Ren := ⟨fun | 129 => 70 | n => n, fun | 53 => 92 | 3 => 3 | 4 => 4 | 46 => 66 | 5 => 5 | 9 => 9 | n => n, fun | n => n⟩
theorem Tryd.lays129 : Go.Proofs.Lays.n129 Tryd.prog Tryd.lays129_ren := {
  mixed := by kernel_rfl
  f129 := Tryd.func70.trans (congrArg some (by kernel_rfl))
  t3 := Tryd.underlying3
  a3 := Tryd.isAgg3
  z3 := Tryd.sizeOf3
  v3 := Tryd.zeroValue3
  t4 := Tryd.underlying4
  a4 := Tryd.isAgg4
  z4 := Tryd.sizeOf4
  v4 := Tryd.zeroValue4
  t5 := Tryd.underlying5
  a5 := Tryd.isAgg5
  z5 := Tryd.sizeOf5
  v5 := Tryd.zeroValue5
  t9 := Tryd.underlying9
  a9 := Tryd.isAgg9
  z9 := Tryd.sizeOf9
  v9 := Tryd.zeroValue9
  t46 := Tryd.underlying66
  a46 := Tryd.isAgg66
  z46 := Tryd.sizeOf66
  v46 := Tryd.zeroValue66
  t53 := Tryd.underlying92
  a53 := Tryd.isAgg92
  z53 := Tryd.sizeOf92
  v53 := Tryd.zeroValue92 }
theorem Tryd.bits_Len64 (x : Int) (w : World) (h0 : 0 ≤ x) (h1 : x ≤ 18446744073709551615) :
    Calls Tryd.prog 70 #[.int .u64 x] w fun e w' => e = .returned (.int .i64 (Lib.bitLen x.toNat)) ∧ w' = w := Any.bits_Len64 Tryd.lays129 x w h0 h1
def Tryd.lays190_ren : Go.Shelf.Ren := ⟨fun | 190 => 29 | 125 => 40 | 258 => 39 | 128 => 69 | 129 => 70 | 302 => 60 | 303 => 61 | 304 => 62 | 305 => 63 | 306 => 64 | 307 => 65 | 308 => 66 | 309 => 67 | 310 => 68 | 333 => 87 | 329 => 88 | 330 => 89 | 334 => 90 | 335 => 91 | 336 => 92 | 344 => 101 | n => n, fun | 31 => 44 | 9 => 9 | 3 => 3 | 46 => 66 | 0 => 0 | 51 => 90 | 53 => 92 | 4 => 4 | 183 => 83 | 182 => 82 | 131 => 87 | 5 => 5 | 218 => 108 | 222 => 112 | 228 => 125 | 229 => 126 | n => n, fun | n => n⟩
theorem Tryd.lays190 : Go.Proofs.Lays.n190 Tryd.prog Tryd.lays190_ren := {
  mixed := by kernel_rfl
  f125 := Tryd.func40.trans (congrArg some (by kernel_rfl))
  f128 := Tryd.func69.trans (congrArg some (by kernel_rfl))
  f129 := Tryd.func70.trans (congrArg some (by kernel_rfl))
  f190 := Tryd.func29.trans (congrArg some (by kernel_rfl))
  f258 := Tryd.func39.trans (congrArg some (by kernel_rfl))
  f302 := Tryd.func60.trans (congrArg some (by kernel_rfl))
  f303 := Tryd.func61.trans (congrArg some (by kernel_rfl))
  f304 := Tryd.func62.trans (congrArg some (by kernel_rfl))
  f305 := Tryd.func63.trans (congrArg some (by kernel_rfl))
  f306 := Tryd.func64.trans (congrArg some (by kernel_rfl))
  f307 := Tryd.func65.trans (congrArg some (by kernel_rfl))
  f308 := Tryd.func66.trans (congrArg some (by kernel_rfl))
  f309 := Tryd.func67.trans (congrArg some (by kernel_rfl))
  f310 := Tryd.func68.trans (congrArg some (by kernel_rfl))
  f329 := Tryd.func88.trans (congrArg some (by kernel_rfl))
  f330 := Tryd.func89.trans (congrArg some (by kernel_rfl))
  f333 := Tryd.func87.trans (congrArg some (by kernel_rfl))
  f334 := Tryd.func90.trans (congrArg some (by kernel_rfl))
  f335 := Tryd.func91.trans (congrArg some (by kernel_rfl))
  f336 := Tryd.func92.trans (congrArg some (by kernel_rfl))
  f344 := Tryd.func101.trans (congrArg some (by kernel_rfl))
  t0 := Tryd.underlying0
  a0 := Tryd.isAgg0
  z0 := Tryd.sizeOf0
  v0 := Tryd.zeroValue0
  t3 := Tryd.underlying3
  a3 := Tryd.isAgg3
  z3 := Tryd.sizeOf3
  v3 := Tryd.zeroValue3
  t4 := Tryd.underlying4
  a4 := Tryd.isAgg4
  z4 := Tryd.sizeOf4
  v4 := Tryd.zeroValue4
  t5 := Tryd.underlying5
  a5 := Tryd.isAgg5
  z5 := Tryd.sizeOf5
  v5 := Tryd.zeroValue5
  t9 := Tryd.underlying9
  a9 := Tryd.isAgg9
  z9 := Tryd.sizeOf9
  v9 := Tryd.zeroValue9
  t31 := Tryd.underlying44
  a31 := Tryd.isAgg44
  z31 := Tryd.sizeOf44
  v31 := Tryd.zeroValue44
  t46 := Tryd.underlying66
  a46 := Tryd.isAgg66
  z46 := Tryd.sizeOf66
  v46 := Tryd.zeroValue66
  t51 := Tryd.underlying90
  a51 := Tryd.isAgg90
  z51 := Tryd.sizeOf90
  v51 := Tryd.zeroValue90
  t53 := Tryd.underlying92
  a53 := Tryd.isAgg92
  z53 := Tryd.sizeOf92
  v53 := Tryd.zeroValue92
  t131 := Tryd.underlying87
  a131 := Tryd.isAgg87
  z131 := Tryd.sizeOf87
  v131 := Tryd.zeroValue87
  t182 := Tryd.underlying82
  a182 := Tryd.isAgg82
  z182 := Tryd.sizeOf82
  v182 := Tryd.zeroValue82
  t183 := Tryd.underlying83
  a183 := Tryd.isAgg83
  z183 := Tryd.sizeOf83
  v183 := Tryd.zeroValue83
  t218 := Tryd.underlying108
  a218 := Tryd.isAgg108
  z218 := Tryd.sizeOf108
  v218 := Tryd.zeroValue108
  t222 := Tryd.underlying112
  a222 := Tryd.isAgg112
  z222 := Tryd.sizeOf112
  v222 := Tryd.zeroValue112
  t228 := Tryd.underlying125
  a228 := Tryd.isAgg125
  z228 := Tryd.sizeOf125
  v228 := Tryd.zeroValue125
  t229 := Tryd.underlying126
  a229 := Tryd.isAgg126
  z229 := Tryd.sizeOf126
  v229 := Tryd.zeroValue126 }
open Go.Sort Go.RowKit in
theorem Tryd.slices_Sort_string (blk off cap : Nat) (ss : List (List UInt8)) (w : World) (hH : Holds encStr w blk off ss.toArray) (hblk : blk < w.heap.size) (hsz : ss.length < 4611686018427387904) :
    Calls Tryd.prog 29 #[.slice (some ⟨blk, off, none⟩) ss.length cap] w fun e w' =>
      e = .returned (.tuple #[]) ∧ ∃ n os, w' = grow (putRow encStr (Sort.ahead w n) blk off (ss.mergeSort fun x y => decide (x ≤ y)).toArray) os := Any.slices_Sort_string Tryd.lays190 blk off cap ss w hH hblk hsz
def Tryd.lays192_ren : Go.Shelf.Ren := ⟨fun | 192 => 24 | 190 => 29 | 125 => 40 | 258 => 39 | 128 => 69 | 129 => 70 | 302 => 60 | 303 => 61 | 304 => 62 | 305 => 63 | 306 => 64 | 307 => 65 | 308 => 66 | 309 => 67 | 310 => 68 | 333 => 87 | 329 => 88 | 330 => 89 | 334 => 90 | 335 => 91 | 336 => 92 | 344 => 101 | n => n, fun | 31 => 44 | 0 => 0 | 9 => 9 | 3 => 3 | 46 => 66 | 51 => 90 | 53 => 92 | 4 => 4 | 183 => 83 | 182 => 82 | 131 => 87 | 5 => 5 | 218 => 108 | 222 => 112 | 228 => 125 | 229 => 126 | n => n, fun | n => n⟩
theorem Tryd.lays192 : Go.Proofs.Lays.n192 Tryd.prog Tryd.lays192_ren := {
  mixed := by kernel_rfl
  f125 := Tryd.func40.trans (congrArg some (by kernel_rfl))
  f128 := Tryd.func69.trans (congrArg some (by kernel_rfl))
  f129 := Tryd.func70.trans (congrArg some (by kernel_rfl))
  f190 := Tryd.func29.trans (congrArg some (by kernel_rfl))
  f192 := Tryd.func24.trans (congrArg some (by kernel_rfl))
  f258 := Tryd.func39.trans (congrArg some (by kernel_rfl))
  f302 := Tryd.func60.trans (congrArg some (by kernel_rfl))
  f303 := Tryd.func61.trans (congrArg some (by kernel_rfl))
  f304 := Tryd.func62.trans (congrArg some (by kernel_rfl))
  f305 := Tryd.func63.trans (congrArg some (by kernel_rfl))
  f306 := Tryd.func64.trans (congrArg some (by kernel_rfl))
  f307 := Tryd.func65.trans (congrArg some (by kernel_rfl))
  f308 := Tryd.func66.trans (congrArg some (by kernel_rfl))
  f309 := Tryd.func67.trans (congrArg some (by kernel_rfl))
  f310 := Tryd.func68.trans (congrArg some (by kernel_rfl))
  f329 := Tryd.func88.trans (congrArg some (by kernel_rfl))
  f330 := Tryd.func89.trans (congrArg some (by kernel_rfl))
  f333 := Tryd.func87.trans (congrArg some (by kernel_rfl))
  f334 := Tryd.func90.trans (congrArg some (by kernel_rfl))
  f335 := Tryd.func91.trans (congrArg some (by kernel_rfl))
  f336 := Tryd.func92.trans (congrArg some (by kernel_rfl))
  f344 := Tryd.func101.trans (congrArg some (by kernel_rfl))
  t0 := Tryd.underlying0
  a0 := Tryd.isAgg0
  z0 := Tryd.sizeOf0
  v0 := Tryd.zeroValue0
  t3 := Tryd.underlying3
  a3 := Tryd.isAgg3
  z3 := Tryd.sizeOf3
  v3 := Tryd.zeroValue3
  t4 := Tryd.underlying4
  a4 := Tryd.isAgg4
  z4 := Tryd.sizeOf4
  v4 := Tryd.zeroValue4
  t5 := Tryd.underlying5
  a5 := Tryd.isAgg5
  z5 := Tryd.sizeOf5
  v5 := Tryd.zeroValue5
  t9 := Tryd.underlying9
  a9 := Tryd.isAgg9
  z9 := Tryd.sizeOf9
  v9 := Tryd.zeroValue9
  t31 := Tryd.underlying44
  a31 := Tryd.isAgg44
  z31 := Tryd.sizeOf44
  v31 := Tryd.zeroValue44
  t46 := Tryd.underlying66
  a46 := Tryd.isAgg66
  z46 := Tryd.sizeOf66
  v46 := Tryd.zeroValue66
  t51 := Tryd.underlying90
  a51 := Tryd.isAgg90
  z51 := Tryd.sizeOf90
  v51 := Tryd.zeroValue90
  t53 := Tryd.underlying92
  a53 := Tryd.isAgg92
  z53 := Tryd.sizeOf92
  v53 := Tryd.zeroValue92
  t131 := Tryd.underlying87
  a131 := Tryd.isAgg87
  z131 := Tryd.sizeOf87
  v131 := Tryd.zeroValue87
  t182 := Tryd.underlying82
  a182 := Tryd.isAgg82
  z182 := Tryd.sizeOf82
  v182 := Tryd.zeroValue82
  t183 := Tryd.underlying83
  a183 := Tryd.isAgg83
  z183 := Tryd.sizeOf83
  v183 := Tryd.zeroValue83
  t218 := Tryd.underlying108
  a218 := Tryd.isAgg108
  z218 := Tryd.sizeOf108
  v218 := Tryd.zeroValue108
  t222 := Tryd.underlying112
  a222 := Tryd.isAgg112
  z222 := Tryd.sizeOf112
  v222 := Tryd.zeroValue112
  t228 := Tryd.underlying125
  a228 := Tryd.isAgg125
  z228 := Tryd.sizeOf125
  v228 := Tryd.zeroValue125
  t229 := Tryd.underlying126
  a229 := Tryd.isAgg126
  z229 := Tryd.sizeOf126
  v229 := Tryd.zeroValue126 }
open Go.Sort Go.RowKit in
theorem Tryd.sort_Strings (blk off cap : Nat) (ss : List (List UInt8)) (w : World) (hH : Holds encStr w blk off ss.toArray) (hblk : blk < w.heap.size) (hsz : ss.length < 4611686018427387904) :
    Calls Tryd.prog 24 #[.slice (some ⟨blk, off, none⟩) ss.length cap] w fun e w' =>
      e = .returned (.tuple #[]) ∧ ∃ n os, w' = grow (putRow encStr (Sort.ahead w n) blk off (ss.mergeSort fun x y => decide (x ≤ y)).toArray) os := Any.sort_Strings Tryd.lays192 blk off cap ss w hH hblk hsz
def Tryd.lays206_ren : Go.Shelf.Ren := ⟨fun | 206 => 103 | n => n, fun | 9 => 9 | 4 => 4 | 3 => 3 | n => n, fun | n => n⟩
theorem Tryd.lays206 : Go.Proofs.Lays.n206 Tryd.prog Tryd.lays206_ren := {
  mixed := by kernel_rfl
  f206 := Tryd.func103.trans (congrArg some (by kernel_rfl))
  t3 := Tryd.underlying3
  a3 := Tryd.isAgg3
  z3 := Tryd.sizeOf3
  v3 := Tryd.zeroValue3
  t4 := Tryd.underlying4
  a4 := Tryd.isAgg4
  z4 := Tryd.sizeOf4
  v4 := Tryd.zeroValue4
  t9 := Tryd.underlying9
  a9 := Tryd.isAgg9
  z9 := Tryd.sizeOf9
  v9 := Tryd.zeroValue9 }
open Go.RowKit Go.Lib in
theorem Tryd.stringslite_HasPrefix (s p : ByteArray) (w : World) :
    Calls Tryd.prog 103 #[.string s, .string p] w fun e w' => e = .returned (.bool (Lib.hasPrefix s.data.toList p.data.toList)) ∧ w' = w := Any.stringslite_HasPrefix Tryd.lays206 s p w
def Tryd.lays208_ren : Go.Shelf.Ren := ⟨fun | 208 => 100 | 206 => 103 | n => n, fun | 9 => 9 | 4 => 4 | 3 => 3 | n => n, fun | n => n⟩
theorem Tryd.lays208 : Go.Proofs.Lays.n208 Tryd.prog Tryd.lays208_ren := {
  mixed := by kernel_rfl
  f206 := Tryd.func103.trans (congrArg some (by kernel_rfl))
  f208 := Tryd.func100.trans (congrArg some (by kernel_rfl))
  t3 := Tryd.underlying3
  a3 := Tryd.isAgg3
  z3 := Tryd.sizeOf3
  v3 := Tryd.zeroValue3
  t4 := Tryd.underlying4
  a4 := Tryd.isAgg4
  z4 := Tryd.sizeOf4
  v4 := Tryd.zeroValue4
  t9 := Tryd.underlying9
  a9 := Tryd.isAgg9
  z9 := Tryd.sizeOf9
  v9 := Tryd.zeroValue9 }
open Go.RowKit Go.Lib in
theorem Tryd.stringslite_TrimPrefix (s p : ByteArray) (w : World) :
    Calls Tryd.prog 100 #[.string s, .string p] w fun e w' => e = .returned (.string ⟨(Lib.trimPrefix s.data.toList p.data.toList).toArray⟩) ∧ w' = w := Any.stringslite_TrimPrefix Tryd.lays208 s p w
def Tryd.lays101_ren : Go.Shelf.Ren := ⟨fun | 101 => 85 | 208 => 100 | 206 => 103 | n => n, fun | 9 => 9 | 4 => 4 | 3 => 3 | n => n, fun | n => n⟩
theorem Tryd.lays101 : Go.Proofs.Lays.n101 Tryd.prog Tryd.lays101_ren := {
  mixed := by kernel_rfl
  f101 := Tryd.func85.trans (congrArg some (by kernel_rfl))
  f206 := Tryd.func103.trans (congrArg some (by kernel_rfl))
  f208 := Tryd.func100.trans (congrArg some (by kernel_rfl))
  t3 := Tryd.underlying3
  a3 := Tryd.isAgg3
  z3 := Tryd.sizeOf3
  v3 := Tryd.zeroValue3
  t4 := Tryd.underlying4
  a4 := Tryd.isAgg4
  z4 := Tryd.sizeOf4
  v4 := Tryd.zeroValue4
  t9 := Tryd.underlying9
  a9 := Tryd.isAgg9
  z9 := Tryd.sizeOf9
  v9 := Tryd.zeroValue9 }
open Go.RowKit Go.Lib in
theorem Tryd.strings_TrimPrefix (s p : ByteArray) (w : World) :
    Calls Tryd.prog 85 #[.string s, .string p] w fun e w' => e = .returned (.string ⟨(Lib.trimPrefix s.data.toList p.data.toList).toArray⟩) ∧ w' = w := Any.strings_TrimPrefix Tryd.lays101 s p w
def Tryd.lays199_ren : Go.Shelf.Ren := ⟨fun | 199 => 53 | 261 => 75 | 311 => 93 | 312 => 94 | n => n, fun | 21 => 21 | 4 => 4 | 51 => 90 | 141 => 96 | 0 => 0 | 196 => 117 | 193 => 114 | 3 => 3 | 198 => 120 | 49 => 118 | 194 => 115 | 201 => 123 | 226 => 128 | 46 => 66 | 227 => 129 | n => n, fun | 6 => 3 | n => n⟩
theorem Tryd.lays199 : Go.Proofs.Lays.n199 Tryd.prog Tryd.lays199_ren := {
  mixed := by kernel_rfl
  f199 := Tryd.func53.trans (congrArg some (by kernel_rfl))
  f261 := Tryd.func75.trans (congrArg some (by kernel_rfl))
  f311 := Tryd.func93.trans (congrArg some (by kernel_rfl))
  f312 := Tryd.func94.trans (congrArg some (by kernel_rfl))
  t0 := Tryd.underlying0
  a0 := Tryd.isAgg0
  z0 := Tryd.sizeOf0
  v0 := Tryd.zeroValue0
  t3 := Tryd.underlying3
  a3 := Tryd.isAgg3
  z3 := Tryd.sizeOf3
  v3 := Tryd.zeroValue3
  t4 := Tryd.underlying4
  a4 := Tryd.isAgg4
  z4 := Tryd.sizeOf4
  v4 := Tryd.zeroValue4
  t21 := Tryd.underlying21
  a21 := Tryd.isAgg21
  z21 := Tryd.sizeOf21
  v21 := Tryd.zeroValue21
  t46 := Tryd.underlying66
  a46 := Tryd.isAgg66
  z46 := Tryd.sizeOf66
  v46 := Tryd.zeroValue66
  t49 := Tryd.underlying118
  a49 := Tryd.isAgg118
  z49 := Tryd.sizeOf118
  v49 := Tryd.zeroValue118
  t51 := Tryd.underlying90
  a51 := Tryd.isAgg90
  z51 := Tryd.sizeOf90
  v51 := Tryd.zeroValue90
  t141 := Tryd.underlying96
  a141 := Tryd.isAgg96
  z141 := Tryd.sizeOf96
  v141 := Tryd.zeroValue96
  t193 := Tryd.underlying114
  a193 := Tryd.isAgg114
  z193 := Tryd.sizeOf114
  v193 := Tryd.zeroValue114
  t194 := Tryd.underlying115
  a194 := Tryd.isAgg115
  z194 := Tryd.sizeOf115
  v194 := Tryd.zeroValue115
  t196 := Tryd.underlying117
  a196 := Tryd.isAgg117
  z196 := Tryd.sizeOf117
  v196 := Tryd.zeroValue117
  t198 := Tryd.underlying120
  a198 := Tryd.isAgg120
  z198 := Tryd.sizeOf120
  v198 := Tryd.zeroValue120
  t201 := Tryd.underlying123
  a201 := Tryd.isAgg123
  z201 := Tryd.sizeOf123
  v201 := Tryd.zeroValue123
  t226 := Tryd.underlying128
  a226 := Tryd.isAgg128
  z226 := Tryd.sizeOf128
  v226 := Tryd.zeroValue128
  t227 := Tryd.underlying129
  a227 := Tryd.isAgg129
  z227 := Tryd.sizeOf129
  v227 := Tryd.zeroValue129
  g6 := by kernel_rfl }
open Go.RowKit Go.Lib in
theorem Tryd.unicode_IsSpace (r : Int) (w : World) (h0 : 0 ≤ r) (h : r ≤ 255) :
    Calls Tryd.prog 53 #[.int .i32 r] w fun e w' => e = .returned (.bool (Lib.isSpaceL r)) ∧ w' = w := Any.unicode_IsSpace Tryd.lays199 r w h0 h
def Tryd.lays200_ren : Go.Shelf.Ren := ⟨fun | 200 => 49 | 261 => 75 | 311 => 93 | 312 => 94 | n => n, fun | 21 => 21 | 4 => 4 | 51 => 90 | 5 => 5 | 119 => 94 | 0 => 0 | 141 => 96 | 196 => 117 | 193 => 114 | 3 => 3 | 198 => 120 | 49 => 118 | 194 => 115 | 201 => 123 | 226 => 128 | 46 => 66 | 227 => 129 | n => n, fun | 7 => 0 | 8 => 1 | n => n⟩
theorem Tryd.lays200 : Go.Proofs.Lays.n200 Tryd.prog Tryd.lays200_ren := {
  mixed := by kernel_rfl
  f200 := Tryd.func49.trans (congrArg some (by kernel_rfl))
  f261 := Tryd.func75.trans (congrArg some (by kernel_rfl))
  f311 := Tryd.func93.trans (congrArg some (by kernel_rfl))
  f312 := Tryd.func94.trans (congrArg some (by kernel_rfl))
  t0 := Tryd.underlying0
  a0 := Tryd.isAgg0
  z0 := Tryd.sizeOf0
  v0 := Tryd.zeroValue0
  t3 := Tryd.underlying3
  a3 := Tryd.isAgg3
  z3 := Tryd.sizeOf3
  v3 := Tryd.zeroValue3
  t4 := Tryd.underlying4
  a4 := Tryd.isAgg4
  z4 := Tryd.sizeOf4
  v4 := Tryd.zeroValue4
  t5 := Tryd.underlying5
  a5 := Tryd.isAgg5
  z5 := Tryd.sizeOf5
  v5 := Tryd.zeroValue5
  t21 := Tryd.underlying21
  a21 := Tryd.isAgg21
  z21 := Tryd.sizeOf21
  v21 := Tryd.zeroValue21
  t46 := Tryd.underlying66
  a46 := Tryd.isAgg66
  z46 := Tryd.sizeOf66
  v46 := Tryd.zeroValue66
  t49 := Tryd.underlying118
  a49 := Tryd.isAgg118
  z49 := Tryd.sizeOf118
  v49 := Tryd.zeroValue118
  t51 := Tryd.underlying90
  a51 := Tryd.isAgg90
  z51 := Tryd.sizeOf90
  v51 := Tryd.zeroValue90
  t119 := Tryd.underlying94
  a119 := Tryd.isAgg94
  z119 := Tryd.sizeOf94
  t141 := Tryd.underlying96
  a141 := Tryd.isAgg96
  z141 := Tryd.sizeOf96
  v141 := Tryd.zeroValue96
  t193 := Tryd.underlying114
  a193 := Tryd.isAgg114
  z193 := Tryd.sizeOf114
  v193 := Tryd.zeroValue114
  t194 := Tryd.underlying115
  a194 := Tryd.isAgg115
  z194 := Tryd.sizeOf115
  v194 := Tryd.zeroValue115
  t196 := Tryd.underlying117
  a196 := Tryd.isAgg117
  z196 := Tryd.sizeOf117
  v196 := Tryd.zeroValue117
  t198 := Tryd.underlying120
  a198 := Tryd.isAgg120
  z198 := Tryd.sizeOf120
  v198 := Tryd.zeroValue120
  t201 := Tryd.underlying123
  a201 := Tryd.isAgg123
  z201 := Tryd.sizeOf123
  v201 := Tryd.zeroValue123
  t226 := Tryd.underlying128
  a226 := Tryd.isAgg128
  z226 := Tryd.sizeOf128
  v226 := Tryd.zeroValue128
  t227 := Tryd.underlying129
  a227 := Tryd.isAgg129
  z227 := Tryd.sizeOf129
  v227 := Tryd.zeroValue129
  g7 := by kernel_rfl
  g8 := by kernel_rfl }
open Go.RowKit Go.Lib in
theorem Tryd.unicode_IsLetter (c : Nat) (w : World) (hc : c < 256) (htab : Lib.TabIs Tryd.prog w "unicode.properties" .u8 Lib.propertiesTab) :
    Calls Tryd.prog 49 #[.int .i32 c] w fun e w' => e = .returned (.bool (Lib.isLetterL c)) ∧ w' = w := Any.unicode_IsLetter Tryd.lays200 (by kernel_rfl) c w hc htab
def Tryd.laysM200_ren : Go.Shelf.Ren := ⟨fun | 200 => 49 | 261 => 75 | 311 => 93 | 312 => 94 | n => n, fun | 21 => 21 | 4 => 4 | 51 => 90 | 5 => 5 | 119 => 94 | 0 => 0 | 141 => 96 | 196 => 117 | 193 => 114 | 3 => 3 | 198 => 120 | 49 => 118 | 194 => 115 | 201 => 123 | 226 => 128 | 46 => 66 | 227 => 129 | n => n, fun | 7 => 0 | 8 => 1 | n => n⟩
theorem Tryd.laysM200 : Go.Proofs.LaysM.n200 Tryd.prog Tryd.laysM200_ren := {
  mixed := by kernel_rfl
  f200 := Tryd.func49.trans (congrArg some (by kernel_rfl))
  f261 := Tryd.func75.trans (congrArg some (by kernel_rfl))
  f311 := Tryd.func93.trans (congrArg some (by kernel_rfl))
  f312 := Tryd.func94.trans (congrArg some (by kernel_rfl))
  t0 := Tryd.underlying0
  a0 := Tryd.isAgg0
  z0 := Tryd.sizeOf0
  v0 := Tryd.zeroValue0
  t3 := Tryd.underlying3
  a3 := Tryd.isAgg3
  z3 := Tryd.sizeOf3
  v3 := Tryd.zeroValue3
  t4 := Tryd.underlying4
  a4 := Tryd.isAgg4
  z4 := Tryd.sizeOf4
  v4 := Tryd.zeroValue4
  t5 := Tryd.underlying5
  a5 := Tryd.isAgg5
  z5 := Tryd.sizeOf5
  v5 := Tryd.zeroValue5
  t21 := Tryd.underlying21
  a21 := Tryd.isAgg21
  z21 := Tryd.sizeOf21
  v21 := Tryd.zeroValue21
  t46 := Tryd.underlying66
  a46 := Tryd.isAgg66
  z46 := Tryd.sizeOf66
  v46 := Tryd.zeroValue66
  t49 := Tryd.underlying118
  a49 := Tryd.isAgg118
  z49 := Tryd.sizeOf118
  v49 := Tryd.zeroValue118
  t51 := Tryd.underlying90
  a51 := Tryd.isAgg90
  z51 := Tryd.sizeOf90
  v51 := Tryd.zeroValue90
  t119 := Tryd.underlying94
  a119 := Tryd.isAgg94
  z119 := Tryd.sizeOf94
  t141 := Tryd.underlying96
  a141 := Tryd.isAgg96
  z141 := Tryd.sizeOf96
  v141 := Tryd.zeroValue96
  t193 := Tryd.underlying114
  a193 := Tryd.isAgg114
  z193 := Tryd.sizeOf114
  v193 := Tryd.zeroValue114
  t194 := Tryd.underlying115
  a194 := Tryd.isAgg115
  z194 := Tryd.sizeOf115
  v194 := Tryd.zeroValue115
  t196 := Tryd.underlying117
  a196 := Tryd.isAgg117
  z196 := Tryd.sizeOf117
  v196 := Tryd.zeroValue117
  t198 := Tryd.underlying120
  a198 := Tryd.isAgg120
  z198 := Tryd.sizeOf120
  v198 := Tryd.zeroValue120
  t201 := Tryd.underlying123
  a201 := Tryd.isAgg123
  z201 := Tryd.sizeOf123
  v201 := Tryd.zeroValue123
  t226 := Tryd.underlying128
  a226 := Tryd.isAgg128
  z226 := Tryd.sizeOf128
  v226 := Tryd.zeroValue128
  t227 := Tryd.underlying129
  a227 := Tryd.isAgg129
  z227 := Tryd.sizeOf129
  v227 := Tryd.zeroValue129
  g7 := by kernel_rfl
  g8 := by kernel_rfl
  i0 := by kernel_rfl
  i3 := by kernel_rfl
  i4 := by kernel_rfl
  i5 := by kernel_rfl
  i21 := by kernel_rfl
  i46 := by kernel_rfl
  i49 := by kernel_rfl
  i51 := by kernel_rfl
  i141 := by kernel_rfl
  i193 := by kernel_rfl
  i194 := by kernel_rfl
  i196 := by kernel_rfl
  i198 := by kernel_rfl
  i201 := by kernel_rfl
  i226 := by kernel_rfl
  i227 := by kernel_rfl
  m7 := by kernel_rfl
  m8 := by kernel_rfl }
open Go.RowKit Go.Lib in
theorem Tryd.unicode_IsLetter_laid (c : Nat) (w : World) (hc : c < 256) (htab : Lib.TabIs Tryd.prog w "unicode.properties" .u8 Lib.propertiesTab) :
    Calls Tryd.prog 49 #[.int .i32 c] w fun e w' => e = .returned (.bool (Lib.isLetterL c)) ∧ w' = w := Any.unicode_IsLetter_laid Tryd.laysM200 c w hc htab
def Tryd.lays197_ren : Go.Shelf.Ren := ⟨fun | 197 => 77 | 260 => 96 | n => n, fun | 9 => 9 | 21 => 21 | 3 => 3 | 4 => 4 | 5 => 5 | 105 => 101 | 119 => 94 | 0 => 0 | 46 => 66 | 139 => 132 | 138 => 131 | n => n, fun | 3 => 4 | 4 => 5 | n => n⟩
theorem Tryd.lays197 : Go.Proofs.Lays.n197 Tryd.prog Tryd.lays197_ren := {
  mixed := by kernel_rfl
  f197 := Tryd.func77.trans (congrArg some (by kernel_rfl))
  f260 := Tryd.func96.trans (congrArg some (by kernel_rfl))
  t0 := Tryd.underlying0
  a0 := Tryd.isAgg0
  z0 := Tryd.sizeOf0
  v0 := Tryd.zeroValue0
  t3 := Tryd.underlying3
  a3 := Tryd.isAgg3
  z3 := Tryd.sizeOf3
  v3 := Tryd.zeroValue3
  t4 := Tryd.underlying4
  a4 := Tryd.isAgg4
  z4 := Tryd.sizeOf4
  v4 := Tryd.zeroValue4
  t5 := Tryd.underlying5
  a5 := Tryd.isAgg5
  z5 := Tryd.sizeOf5
  v5 := Tryd.zeroValue5
  t9 := Tryd.underlying9
  a9 := Tryd.isAgg9
  z9 := Tryd.sizeOf9
  v9 := Tryd.zeroValue9
  t21 := Tryd.underlying21
  a21 := Tryd.isAgg21
  z21 := Tryd.sizeOf21
  v21 := Tryd.zeroValue21
  t46 := Tryd.underlying66
  a46 := Tryd.isAgg66
  z46 := Tryd.sizeOf66
  v46 := Tryd.zeroValue66
  t105 := Tryd.underlying101
  a105 := Tryd.isAgg101
  z105 := Tryd.sizeOf101
  v105 := Tryd.zeroValue101
  t119 := Tryd.underlying94
  a119 := Tryd.isAgg94
  z119 := Tryd.sizeOf94
  t138 := Tryd.underlying131
  a138 := Tryd.isAgg131
  z138 := Tryd.sizeOf131
  v138 := Tryd.zeroValue131
  t139 := Tryd.underlying132
  a139 := Tryd.isAgg132
  z139 := Tryd.sizeOf132
  v139 := Tryd.zeroValue132
  g3 := by kernel_rfl
  g4 := by kernel_rfl }
open Go.RowKit Go.Lib in
theorem Tryd.utf8_DecodeRuneInString_ascii (s : ByteArray) (x : UInt8) (w : World) (h0 : s.data.toList[0]? = some x) (hx : x.toNat < 128) :
    Calls Tryd.prog 77 #[.string s] w fun e w' => e = .returned (.tuple #[.int .i32 x.toNat, .int .i64 1]) ∧ w' = w := Any.utf8_DecodeRuneInString_ascii Tryd.lays197 s x w h0 hx
def Tryd.lays260_ren : Go.Shelf.Ren := ⟨fun | 260 => 96 | n => n, fun | 9 => 9 | 21 => 21 | 3 => 3 | 4 => 4 | 5 => 5 | 119 => 94 | 0 => 0 | 46 => 66 | 139 => 132 | 138 => 131 | n => n, fun | 3 => 4 | 4 => 5 | n => n⟩
theorem Tryd.lays260 : Go.Proofs.Lays.n260 Tryd.prog Tryd.lays260_ren := {
  mixed := by kernel_rfl
  f260 := Tryd.func96.trans (congrArg some (by kernel_rfl))
  t0 := Tryd.underlying0
  a0 := Tryd.isAgg0
  z0 := Tryd.sizeOf0
  v0 := Tryd.zeroValue0
  t3 := Tryd.underlying3
  a3 := Tryd.isAgg3
  z3 := Tryd.sizeOf3
  v3 := Tryd.zeroValue3
  t4 := Tryd.underlying4
  a4 := Tryd.isAgg4
  z4 := Tryd.sizeOf4
  v4 := Tryd.zeroValue4
  t5 := Tryd.underlying5
  a5 := Tryd.isAgg5
  z5 := Tryd.sizeOf5
  v5 := Tryd.zeroValue5
  t9 := Tryd.underlying9
  a9 := Tryd.isAgg9
  z9 := Tryd.sizeOf9
  v9 := Tryd.zeroValue9
  t21 := Tryd.underlying21
  a21 := Tryd.isAgg21
  z21 := Tryd.sizeOf21
  v21 := Tryd.zeroValue21
  t46 := Tryd.underlying66
  a46 := Tryd.isAgg66
  z46 := Tryd.sizeOf66
  v46 := Tryd.zeroValue66
  t119 := Tryd.underlying94
  a119 := Tryd.isAgg94
  z119 := Tryd.sizeOf94
  t138 := Tryd.underlying131
  a138 := Tryd.isAgg131
  z138 := Tryd.sizeOf131
  v138 := Tryd.zeroValue131
  t139 := Tryd.underlying132
  a139 := Tryd.isAgg132
  z139 := Tryd.sizeOf132
  v139 := Tryd.zeroValue132
  g3 := by kernel_rfl
  g4 := by kernel_rfl }
open Go.RowKit Go.Lib in
theorem Tryd.utf8_decodeRuneInStringSlow (s : ByteArray) (w : World) (hT : Lib.Utf8Tabs 4 5 w) :
    Calls Tryd.prog 96 #[.string s] w fun e w' => e = .returned (.tuple #[.int .i32 (Lib.decodeGo s).1, .int .i64 (Lib.decodeGo s).2]) ∧ Below w.heap.size w w' := Any.utf8_decodeRuneInStringSlow Tryd.lays260 s w hT
open Go.RowKit Go.Lib in
theorem Tryd.utf8_DecodeRuneInString (s : ByteArray) (w : World) (hT : Lib.Utf8Tabs 4 5 w) :
    Calls Tryd.prog 77 #[.string s] w fun e w' => e = .returned (.tuple #[.int .i32 (Lib.decodeGo s).1, .int .i64 (Lib.decodeGo s).2]) ∧ Below w.heap.size w w' := Any.utf8_DecodeRuneInString Tryd.lays197 s w hT
def Tryd.lays311_ren : Go.Shelf.Ren := ⟨fun | 311 => 93 | n => n, fun | 193 => 114 | 49 => 118 | 4 => 4 | 3 => 3 | 0 => 0 | 226 => 128 | 198 => 120 | 46 => 66 | n => n, fun | n => n⟩
theorem Tryd.lays311 : Go.Proofs.Lays.n311 Tryd.prog Tryd.lays311_ren := {
  mixed := by kernel_rfl
  f311 := Tryd.func93.trans (congrArg some (by kernel_rfl))
  t0 := Tryd.underlying0
  a0 := Tryd.isAgg0
  z0 := Tryd.sizeOf0
  v0 := Tryd.zeroValue0
  t3 := Tryd.underlying3
  a3 := Tryd.isAgg3
  z3 := Tryd.sizeOf3
  v3 := Tryd.zeroValue3
  t4 := Tryd.underlying4
  a4 := Tryd.isAgg4
  z4 := Tryd.sizeOf4
  v4 := Tryd.zeroValue4
  t46 := Tryd.underlying66
  a46 := Tryd.isAgg66
  z46 := Tryd.sizeOf66
  v46 := Tryd.zeroValue66
  t49 := Tryd.underlying118
  a49 := Tryd.isAgg118
  z49 := Tryd.sizeOf118
  v49 := Tryd.zeroValue118
  t193 := Tryd.underlying114
  a193 := Tryd.isAgg114
  z193 := Tryd.sizeOf114
  v193 := Tryd.zeroValue114
  t198 := Tryd.underlying120
  a198 := Tryd.isAgg120
  z198 := Tryd.sizeOf120
  v198 := Tryd.zeroValue120
  t226 := Tryd.underlying128
  a226 := Tryd.isAgg128
  z226 := Tryd.sizeOf128
  v226 := Tryd.zeroValue128 }
open Go.RowKit Go.Lib in
theorem Tryd.unicode_is16_white (R oR : Nat) (z : Nat) (w : World) (hz : z < 65536) (hz0 : 255 < z) (c6 : w.cell? ⟨R, oR + 6, none⟩ = some (.int .u16 160)) (c7 : w.cell? ⟨R, oR + 7, none⟩ = some (.int .u16 5760)) (c8 : w.cell? ⟨R, oR + 8, none⟩ = some (.int .u16 5600)) (c9 : w.cell? ⟨R, oR + 9, none⟩ = some (.int .u16 8192)) (c10 : w.cell? ⟨R, oR + 10, none⟩ = some (.int .u16 8202)) (c11 : w.cell? ⟨R, oR + 11, none⟩ = some (.int .u16 1)) (c12 : w.cell? ⟨R, oR + 12, none⟩ = some (.int .u16 8232)) (c13 : w.cell? ⟨R, oR + 13, none⟩ = some (.int .u16 8233)) (c14 : w.cell? ⟨R, oR + 14, none⟩ = some (.int .u16 1)) (c15 : w.cell? ⟨R, oR + 15, none⟩ = some (.int .u16 8239)) (c16 : w.cell? ⟨R, oR + 16, none⟩ = some (.int .u16 8287)) (c17 : w.cell? ⟨R, oR + 17, none⟩ = some (.int .u16 48)) (c18 : w.cell? ⟨R, oR + 18, none⟩ = some (.int .u16 12288)) (c19 : w.cell? ⟨R, oR + 19, none⟩ = some (.int .u16 12288)) (c20 : w.cell? ⟨R, oR + 20, none⟩ = some (.int .u16 1)) :
    Calls Tryd.prog 93 #[.slice (some ⟨R, oR + 6, none⟩) 5 5, .int .u16 z] w fun e w' => e = .returned (.bool (Lib.isSpaceR z)) ∧ Below w.heap.size w w' := Any.unicode_is16_white Tryd.lays311 R oR z w hz hz0 c6 c7 c8 c9 c10 c11 c12 c13 c14 c15 c16 c17 c18 c19 c20
def Tryd.lays261_ren : Go.Shelf.Ren := ⟨fun | 261 => 75 | 311 => 93 | 312 => 94 | n => n, fun | 141 => 96 | 21 => 21 | 4 => 4 | 0 => 0 | 196 => 117 | 193 => 114 | 3 => 3 | 51 => 90 | 198 => 120 | 49 => 118 | 194 => 115 | 201 => 123 | 226 => 128 | 46 => 66 | 227 => 129 | n => n, fun | n => n⟩
theorem Tryd.lays261 : Go.Proofs.Lays.n261 Tryd.prog Tryd.lays261_ren := {
  mixed := by kernel_rfl
  f261 := Tryd.func75.trans (congrArg some (by kernel_rfl))
  f311 := Tryd.func93.trans (congrArg some (by kernel_rfl))
  f312 := Tryd.func94.trans (congrArg some (by kernel_rfl))
  t0 := Tryd.underlying0
  a0 := Tryd.isAgg0
  z0 := Tryd.sizeOf0
  v0 := Tryd.zeroValue0
  t3 := Tryd.underlying3
  a3 := Tryd.isAgg3
  z3 := Tryd.sizeOf3
  v3 := Tryd.zeroValue3
  t4 := Tryd.underlying4
  a4 := Tryd.isAgg4
  z4 := Tryd.sizeOf4
  v4 := Tryd.zeroValue4
  t21 := Tryd.underlying21
  a21 := Tryd.isAgg21
  z21 := Tryd.sizeOf21
  v21 := Tryd.zeroValue21
  t46 := Tryd.underlying66
  a46 := Tryd.isAgg66
  z46 := Tryd.sizeOf66
  v46 := Tryd.zeroValue66
  t49 := Tryd.underlying118
  a49 := Tryd.isAgg118
  z49 := Tryd.sizeOf118
  v49 := Tryd.zeroValue118
  t51 := Tryd.underlying90
  a51 := Tryd.isAgg90
  z51 := Tryd.sizeOf90
  v51 := Tryd.zeroValue90
  t141 := Tryd.underlying96
  a141 := Tryd.isAgg96
  z141 := Tryd.sizeOf96
  v141 := Tryd.zeroValue96
  t193 := Tryd.underlying114
  a193 := Tryd.isAgg114
  z193 := Tryd.sizeOf114
  v193 := Tryd.zeroValue114
  t194 := Tryd.underlying115
  a194 := Tryd.isAgg115
  z194 := Tryd.sizeOf115
  v194 := Tryd.zeroValue115
  t196 := Tryd.underlying117
  a196 := Tryd.isAgg117
  z196 := Tryd.sizeOf117
  v196 := Tryd.zeroValue117
  t198 := Tryd.underlying120
  a198 := Tryd.isAgg120
  z198 := Tryd.sizeOf120
  v198 := Tryd.zeroValue120
  t201 := Tryd.underlying123
  a201 := Tryd.isAgg123
  z201 := Tryd.sizeOf123
  v201 := Tryd.zeroValue123
  t226 := Tryd.underlying128
  a226 := Tryd.isAgg128
  z226 := Tryd.sizeOf128
  v226 := Tryd.zeroValue128
  t227 := Tryd.underlying129
  a227 := Tryd.isAgg129
  z227 := Tryd.sizeOf129
  v227 := Tryd.zeroValue129 }
open Go.RowKit Go.Lib in
theorem Tryd.unicode_isExcludingLatin_white (T oT R oR : Nat) (r : Int) (w : World) (hlo : -2147483648 ≤ r) (hhi : r ≤ 2147483647) (hr : r < 0 ∨ 255 < r) (h2 : w.cell? ⟨T, oT, none⟩ = some (.slice (some ⟨R, oR, none⟩) 7 7)) (h3 : w.cell? ⟨T, oT + 1, none⟩ = some (.slice none 0 0)) (h4 : w.cell? ⟨T, oT + 2, none⟩ = some (.int .i64 2)) (h5 : ∀ i, i < 21 → w.cell? ⟨R, oR + i, none⟩ = some (.int .u16 (whiteT.getD i 0))) :
    Calls Tryd.prog 75 #[.pointer (some ⟨T, oT, none⟩), .int .i32 r] w fun e w' => e = .returned (.bool (Lib.isSpaceZ r)) ∧ Below w.heap.size w w' := Any.unicode_isExcludingLatin_white Tryd.lays261 T oT R oR r w hlo hhi hr h2 h3 h4 h5
open Go.RowKit Go.Lib in
theorem Tryd.unicode_IsSpace_any (r : Int) (w : World) (hlo : -2147483648 ≤ r) (hhi : r ≤ 2147483647) (hW : Lib.WhiteTab 3 w) :
    Calls Tryd.prog 53 #[.int .i32 r] w fun e w' => e = .returned (.bool (Lib.isSpaceZ r)) ∧ Below w.heap.size w w' := Any.unicode_IsSpace_any Tryd.lays199 r w hlo hhi hW
def Tryd.lays271_ren : Go.Shelf.Ren := ⟨fun | 271 => 95 | 120 => 102 | 197 => 77 | 260 => 96 | n => n, fun | 9 => 9 | 21 => 21 | 3 => 3 | 4 => 4 | 5 => 5 | 105 => 101 | 119 => 94 | 0 => 0 | 46 => 66 | 139 => 132 | 138 => 131 | n => n, fun | 3 => 4 | 4 => 5 | n => n⟩
theorem Tryd.lays271 : Go.Proofs.Lays.n271 Tryd.prog Tryd.lays271_ren := {
  mixed := by kernel_rfl
  f120 := Tryd.func102.trans (congrArg some (by kernel_rfl))
  f197 := Tryd.func77.trans (congrArg some (by kernel_rfl))
  f260 := Tryd.func96.trans (congrArg some (by kernel_rfl))
  f271 := Tryd.func95.trans (congrArg some (by kernel_rfl))
  t0 := Tryd.underlying0
  a0 := Tryd.isAgg0
  z0 := Tryd.sizeOf0
  v0 := Tryd.zeroValue0
  t3 := Tryd.underlying3
  a3 := Tryd.isAgg3
  z3 := Tryd.sizeOf3
  v3 := Tryd.zeroValue3
  t4 := Tryd.underlying4
  a4 := Tryd.isAgg4
  z4 := Tryd.sizeOf4
  v4 := Tryd.zeroValue4
  t5 := Tryd.underlying5
  a5 := Tryd.isAgg5
  z5 := Tryd.sizeOf5
  v5 := Tryd.zeroValue5
  t9 := Tryd.underlying9
  a9 := Tryd.isAgg9
  z9 := Tryd.sizeOf9
  v9 := Tryd.zeroValue9
  t21 := Tryd.underlying21
  a21 := Tryd.isAgg21
  z21 := Tryd.sizeOf21
  v21 := Tryd.zeroValue21
  t46 := Tryd.underlying66
  a46 := Tryd.isAgg66
  z46 := Tryd.sizeOf66
  v46 := Tryd.zeroValue66
  t105 := Tryd.underlying101
  a105 := Tryd.isAgg101
  z105 := Tryd.sizeOf101
  v105 := Tryd.zeroValue101
  t119 := Tryd.underlying94
  a119 := Tryd.isAgg94
  z119 := Tryd.sizeOf94
  t138 := Tryd.underlying131
  a138 := Tryd.isAgg131
  z138 := Tryd.sizeOf131
  v138 := Tryd.zeroValue131
  t139 := Tryd.underlying132
  a139 := Tryd.isAgg132
  z139 := Tryd.sizeOf132
  v139 := Tryd.zeroValue132
  g3 := by kernel_rfl
  g4 := by kernel_rfl }
open Go.RowKit Go.Lib in
theorem Tryd.utf8_DecodeLastRuneInString (s : ByteArray) (w : World) (hs : s.size ≤ 9223372036854775807) (hT : Lib.Utf8Tabs 4 5 w) :
    Calls Tryd.prog 95 #[.string s] w fun e w' => e = .returned (.tuple #[.int .i32 (Lib.decodeLastL s.data.toList).1, .int .i64 (Lib.decodeLastL s.data.toList).2]) ∧ Below w.heap.size w w' := Any.utf8_DecodeLastRuneInString Tryd.lays271 s w hs hT
open Go.RowKit Go.Lib in
theorem Tryd.unicode_is16_white_d (R oR : Nat) (z : Nat) (w : World) (hz : z < 65536) (hz0 : 255 < z) (c6 : w.cell? ⟨R, oR + 6, none⟩ = some (.int .u16 160)) (c7 : w.cell? ⟨R, oR + 7, none⟩ = some (.int .u16 5760)) (c8 : w.cell? ⟨R, oR + 8, none⟩ = some (.int .u16 5600)) (c9 : w.cell? ⟨R, oR + 9, none⟩ = some (.int .u16 8192)) (c10 : w.cell? ⟨R, oR + 10, none⟩ = some (.int .u16 8202)) (c11 : w.cell? ⟨R, oR + 11, none⟩ = some (.int .u16 1)) (c12 : w.cell? ⟨R, oR + 12, none⟩ = some (.int .u16 8232)) (c13 : w.cell? ⟨R, oR + 13, none⟩ = some (.int .u16 8233)) (c14 : w.cell? ⟨R, oR + 14, none⟩ = some (.int .u16 1)) (c15 : w.cell? ⟨R, oR + 15, none⟩ = some (.int .u16 8239)) (c16 : w.cell? ⟨R, oR + 16, none⟩ = some (.int .u16 8287)) (c17 : w.cell? ⟨R, oR + 17, none⟩ = some (.int .u16 48)) (c18 : w.cell? ⟨R, oR + 18, none⟩ = some (.int .u16 12288)) (c19 : w.cell? ⟨R, oR + 19, none⟩ = some (.int .u16 12288)) (c20 : w.cell? ⟨R, oR + 20, none⟩ = some (.int .u16 1)) :
    Calls Tryd.prog 93 #[.slice (some ⟨R, oR + 6, none⟩) 5 5, .int .u16 z] w fun e w' => e = .returned (.bool (Lib.isSpaceR z)) ∧ ∃ q, w' = w.drewN q := Any.unicode_is16_white_d Tryd.lays311 R oR z w hz hz0 c6 c7 c8 c9 c10 c11 c12 c13 c14 c15 c16 c17 c18 c19 c20
open Go.RowKit Go.Lib in
theorem Tryd.unicode_is16_any (T : Array Rg) (R oR cap : Nat) (z : Nat) (w : World) (hz : z < 65536) (hT : RgTab .u16 R oR T w) (hok : RgOk 65536 T) (hn : T.size ≤ 1000000000) :
    Calls Tryd.prog 93 #[.slice (some ⟨R, oR, none⟩) T.size cap, .int .u16 z] w fun e w' => e = .returned (.bool (is16Go T z)) ∧ ∃ q, w' = w.drewN q := Any.unicode_is16_any Tryd.lays311 T R oR cap z w hz hT hok hn
def Tryd.lays312_ren : Go.Shelf.Ren := ⟨fun | 312 => 94 | n => n, fun | 194 => 115 | 51 => 90 | 4 => 4 | 3 => 3 | 0 => 0 | 227 => 129 | 201 => 123 | 46 => 66 | n => n, fun | n => n⟩
theorem Tryd.lays312 : Go.Proofs.Lays.n312 Tryd.prog Tryd.lays312_ren := {
  mixed := by kernel_rfl
  f312 := Tryd.func94.trans (congrArg some (by kernel_rfl))
  t0 := Tryd.underlying0
  a0 := Tryd.isAgg0
  z0 := Tryd.sizeOf0
  v0 := Tryd.zeroValue0
  t3 := Tryd.underlying3
  a3 := Tryd.isAgg3
  z3 := Tryd.sizeOf3
  v3 := Tryd.zeroValue3
  t4 := Tryd.underlying4
  a4 := Tryd.isAgg4
  z4 := Tryd.sizeOf4
  v4 := Tryd.zeroValue4
  t46 := Tryd.underlying66
  a46 := Tryd.isAgg66
  z46 := Tryd.sizeOf66
  v46 := Tryd.zeroValue66
  t51 := Tryd.underlying90
  a51 := Tryd.isAgg90
  z51 := Tryd.sizeOf90
  v51 := Tryd.zeroValue90
  t194 := Tryd.underlying115
  a194 := Tryd.isAgg115
  z194 := Tryd.sizeOf115
  v194 := Tryd.zeroValue115
  t201 := Tryd.underlying123
  a201 := Tryd.isAgg123
  z201 := Tryd.sizeOf123
  v201 := Tryd.zeroValue123
  t227 := Tryd.underlying129
  a227 := Tryd.isAgg129
  z227 := Tryd.sizeOf129
  v227 := Tryd.zeroValue129 }
open Go.RowKit Go.Lib in
theorem Tryd.unicode_is32_any (T : Array Rg) (R oR cap : Nat) (z : Nat) (w : World) (hz : z < 4294967296) (hT : RgTab .u32 R oR T w) (hok : RgOk 4294967296 T) (hn : T.size ≤ 1000000000) :
    Calls Tryd.prog 94 #[.slice (some ⟨R, oR, none⟩) T.size cap, .int .u32 z] w fun e w' => e = .returned (.bool (is32Go T z)) ∧ Below w.heap.size w w' := Any.unicode_is32_any Tryd.lays312 T R oR cap z w hz hT hok hn
open Go.RowKit Go.Lib in
theorem Tryd.unicode_isExcludingLatin_any (Tb oT : Nat) (T : RTab) (r : Int) (w : World) (hlo : -2147483648 ≤ r) (hhi : r ≤ 2147483647) (hA : RTabAt Tb oT T w) (hok : RTabOk T) :
    Calls Tryd.prog 75 #[.pointer (some ⟨Tb, oT, none⟩), .int .i32 r] w fun e w' => e = .returned (.bool (exclGo T r)) ∧ Below w.heap.size w w' := Any.unicode_isExcludingLatin_any Tryd.lays261 Tb oT T r w hlo hhi hA hok
open Go.RowKit Go.Lib in
theorem Tryd.unicode_IsLetter_any (T : RTab) (r : Int) (w : World) (hlo : -2147483648 ≤ r) (hhi : r ≤ 2147483647) (htab : Lib.TabIs Tryd.prog w "unicode.properties" .u8 Lib.propertiesTab) (hV : RVar 1 T w) (hok : RTabOk T) :
    Calls Tryd.prog 49 #[.int .i32 r] w fun e w' => e = .returned (.bool (if latin1 r then isLetterL r else exclGo T r)) ∧ Below w.heap.size w w' := Any.unicode_IsLetter_any Tryd.lays200 (by kernel_rfl) T r w hlo hhi htab hV hok
open Go.RowKit Go.Sort in
theorem Tryd.slices_Sort_string_none (p : Option Addr) (cap : Nat) (w : World) :
    Calls Tryd.prog 29 #[.slice p 0 cap] w fun e w' => e = .returned (.tuple #[]) ∧ w' = w := Any.slices_Sort_string_none Tryd.lays190 p cap w
open Go.RowKit Go.Sort in
theorem Tryd.sort_Strings_none (p : Option Addr) (cap : Nat) (w : World) :
    Calls Tryd.prog 24 #[.slice p 0 cap] w fun e w' => e = .returned (.tuple #[]) ∧ w' = w := Any.sort_Strings_none Tryd.lays192 p cap w
def Tryd.lays115_ren : Go.Shelf.Ren := ⟨fun | 115 => 74 | n => n, fun | 37 => 52 | 4 => 4 | 9 => 9 | 5 => 5 | n => n, fun | n => n⟩
theorem Tryd.lays115 : Go.Proofs.Lays.n115 Tryd.prog Tryd.lays115_ren := {
  mixed := by kernel_rfl
  f115 := Tryd.func74.trans (congrArg some (by kernel_rfl))
  t4 := Tryd.underlying4
  a4 := Tryd.isAgg4
  z4 := Tryd.sizeOf4
  v4 := Tryd.zeroValue4
  t9 := Tryd.underlying9
  a9 := Tryd.isAgg9
  z9 := Tryd.sizeOf9
  v9 := Tryd.zeroValue9
  t37 := Tryd.underlying52
  a37 := Tryd.isAgg52
  z37 := Tryd.sizeOf52
  v37 := Tryd.zeroValue52 }
open Go.Proofs Go.RowKit Go.Lib in
theorem Tryd.bytes_Equal_strs (v1 v2 : Value) (t1 t2 : ByteArray) (w : World) (h1 : (convert 52 9 v1).run Tryd.prog w = .ok (.string t1) w) (h2 : (convert 52 9 v2).run Tryd.prog w = .ok (.string t2) w) :
    Calls Tryd.prog 74 #[v1, v2] w fun e w' => e = .returned (.bool (t1.toList == t2.toList)) ∧ w' = w := Any.bytes_Equal_strs Tryd.lays115 v1 v2 t1 t2 w h1 h2
def Tryd.laysnb116_ren : Go.Shelf.Ren := ⟨fun | 116 => 47 | 115 => 74 | n => n, fun | 37 => 52 | 4 => 4 | 3 => 3 | 9 => 9 | 5 => 5 | n => n, fun | n => n⟩
theorem Tryd.laysnb116 : Go.Proofs.Lays.nb116 Tryd.prog Tryd.laysnb116_ren := {
  mixed := by kernel_rfl
  f115 := Tryd.func74.trans (congrArg some (by kernel_rfl))
  f116 := Tryd.func47.trans (congrArg some (by kernel_rfl))
  t3 := Tryd.underlying3
  a3 := Tryd.isAgg3
  z3 := Tryd.sizeOf3
  v3 := Tryd.zeroValue3
  t4 := Tryd.underlying4
  a4 := Tryd.isAgg4
  z4 := Tryd.sizeOf4
  v4 := Tryd.zeroValue4
  t9 := Tryd.underlying9
  a9 := Tryd.isAgg9
  z9 := Tryd.sizeOf9
  v9 := Tryd.zeroValue9
  t37 := Tryd.underlying52
  a37 := Tryd.isAgg52
  z37 := Tryd.sizeOf52
  v37 := Tryd.zeroValue52
  t5 := Tryd.underlying5
  a5 := Tryd.isAgg5
  z5 := Tryd.sizeOf5
  v5 := Tryd.zeroValue5 }
theorem Tryd.bytes_HasPrefix_e2 (p1 p2 : Option Addr) (n c d : Nat) (w : World) :
    Calls Tryd.prog 47 #[.slice p1 n c, .slice p2 0 d] w fun e w' => e = .returned (.bool true) ∧ w' = w := Any.bytes_HasPrefix_e2 Tryd.laysnb116 p1 p2 n c d w
theorem Tryd.bytes_HasPrefix_e1 (p1 p2 : Option Addr) (c m d : Nat) (hm : 0 < m) (w : World) :
    Calls Tryd.prog 47 #[.slice p1 0 c, .slice p2 m d] w fun e w' => e = .returned (.bool false) ∧ w' = w := Any.bytes_HasPrefix_e1 Tryd.laysnb116 p1 p2 c m d hm w
def Tryd.laysnb139_ren : Go.Shelf.Ren := ⟨fun | 139 => 48 | 116 => 47 | 115 => 74 | n => n, fun | 37 => 52 | 4 => 4 | 3 => 3 | 9 => 9 | 5 => 5 | n => n, fun | n => n⟩
theorem Tryd.laysnb139 : Go.Proofs.Lays.nb139 Tryd.prog Tryd.laysnb139_ren := {
  mixed := by kernel_rfl
  f115 := Tryd.func74.trans (congrArg some (by kernel_rfl))
  f116 := Tryd.func47.trans (congrArg some (by kernel_rfl))
  f139 := Tryd.func48.trans (congrArg some (by kernel_rfl))
  t3 := Tryd.underlying3
  a3 := Tryd.isAgg3
  z3 := Tryd.sizeOf3
  v3 := Tryd.zeroValue3
  t4 := Tryd.underlying4
  a4 := Tryd.isAgg4
  z4 := Tryd.sizeOf4
  v4 := Tryd.zeroValue4
  t9 := Tryd.underlying9
  a9 := Tryd.isAgg9
  z9 := Tryd.sizeOf9
  v9 := Tryd.zeroValue9
  t37 := Tryd.underlying52
  a37 := Tryd.isAgg52
  z37 := Tryd.sizeOf52
  v37 := Tryd.zeroValue52
  t5 := Tryd.underlying5
  a5 := Tryd.isAgg5
  z5 := Tryd.sizeOf5
  v5 := Tryd.zeroValue5 }
theorem Tryd.bytes_TrimPrefix_e2 (p1 p2 : Option Addr) (n c d : Nat) (_hnc : n ≤ c) (w : World) :
    Calls Tryd.prog 48 #[.slice p1 n c, .slice p2 0 d] w fun e w' => e = .returned (.slice p1 n c) ∧ w' = w := Any.bytes_TrimPrefix_e2 Tryd.laysnb139 p1 p2 n c d _hnc w
theorem Tryd.bytes_TrimPrefix_e1 (p1 p2 : Option Addr) (c m d : Nat) (hm : 0 < m) (w : World) :
    Calls Tryd.prog 48 #[.slice p1 0 c, .slice p2 m d] w fun e w' => e = .returned (.slice p1 0 c) ∧ w' = w := Any.bytes_TrimPrefix_e1 Tryd.laysnb139 p1 p2 c m d hm w
theorem Tryd.bytes_HasPrefix_all (p1 p2 : Option Addr) (n c m d : Nat) (xs ys : List Int) (w : World) (hx : xs.length = n) (hy : ys.length = m) (hnc : n ≤ c) (h1 : Lib.BytesIn w p1 n xs) (h2 : Lib.BytesIn w p2 m ys) :
    Calls Tryd.prog 47 #[.slice p1 n c, .slice p2 m d] w fun e w' => e = .returned (.bool (Lib.hasPrefix (Lib.bytesOf xs) (Lib.bytesOf ys))) ∧ w' = w := Any.bytes_HasPrefix_all Tryd.laysnb116 p1 p2 n c m d xs ys w hx hy hnc h1 h2
theorem Tryd.bytes_TrimPrefix_all (p1 p2 : Option Addr) (n c m d : Nat) (xs ys : List Int) (w : World) (hx : xs.length = n) (hy : ys.length = m) (hnc : n ≤ c) (h1 : Lib.BytesIn w p1 n xs) (h2 : Lib.BytesIn w p2 m ys) :
    Calls Tryd.prog 48 #[.slice p1 n c, .slice p2 m d] w fun e w' => e = .returned (Lib.trimPrefixV p1 n c xs ys) ∧ w' = w := Any.bytes_TrimPrefix_all Tryd.laysnb139 p1 p2 n c m d xs ys w hx hy hnc h1 h2
def Tryd.laysnb115_ren : Go.Shelf.Ren := ⟨fun | 115 => 74 | n => n, fun | 37 => 52 | 4 => 4 | 9 => 9 | 5 => 5 | n => n, fun | n => n⟩
theorem Tryd.laysnb115 : Go.Proofs.Lays.nb115 Tryd.prog Tryd.laysnb115_ren := {
  mixed := by kernel_rfl
  f115 := Tryd.func74.trans (congrArg some (by kernel_rfl))
  t4 := Tryd.underlying4
  a4 := Tryd.isAgg4
  z4 := Tryd.sizeOf4
  v4 := Tryd.zeroValue4
  t9 := Tryd.underlying9
  a9 := Tryd.isAgg9
  z9 := Tryd.sizeOf9
  v9 := Tryd.zeroValue9
  t37 := Tryd.underlying52
  a37 := Tryd.isAgg52
  z37 := Tryd.sizeOf52
  v37 := Tryd.zeroValue52
  t5 := Tryd.underlying5
  a5 := Tryd.isAgg5
  z5 := Tryd.sizeOf5
  v5 := Tryd.zeroValue5 }
theorem Tryd.bytes_Equal_all (p1 p2 : Option Addr) (n c m d : Nat) (xs ys : List Int) (w : World) (hx : xs.length = n) (hy : ys.length = m) (h1 : Lib.BytesIn w p1 n xs) (h2 : Lib.BytesIn w p2 m ys) :
    Calls Tryd.prog 74 #[.slice p1 n c, .slice p2 m d] w fun e w' => e = .returned (.bool (Lib.bytesOf xs == Lib.bytesOf ys)) ∧ w' = w := Any.bytes_Equal_all Tryd.laysnb115 p1 p2 n c m d xs ys w hx hy h1 h2
theorem Tryd.bytes_Equal (v1 v2 : Value) (xs ys : List Int) (w : World) (h1 : (convert 52 9 v1).run Tryd.prog w = .ok (.string (strOfNums xs)) w) (h2 : (convert 52 9 v2).run Tryd.prog w = .ok (.string (strOfNums ys)) w) :
    Calls Tryd.prog 74 #[v1, v2] w fun e w' => e = .returned (.bool (Lib.bytesOf xs == Lib.bytesOf ys)) ∧ w' = w := Any.bytes_Equal Tryd.lays115 v1 v2 xs ys w h1 h2
theorem Tryd.bytes_HasPrefix (b1 o1 n c b2 o2 m d : Nat) (xs ys : List Int) (w : World) (hx : xs.length = n) (hy : ys.length = m) (hnc : n ≤ c) (hc1 : ∀ i, i < n → w.cell? ⟨b1, o1 + i, none⟩ = some (.int .u8 (xs.getD i 0))) (hc2 : ∀ i, i < m → w.cell? ⟨b2, o2 + i, none⟩ = some (.int .u8 (ys.getD i 0))) :
    Calls Tryd.prog 47 #[.slice (some ⟨b1, o1, none⟩) n c, .slice (some ⟨b2, o2, none⟩) m d] w fun e w' => e = .returned (.bool (Lib.hasPrefix (Lib.bytesOf xs) (Lib.bytesOf ys))) ∧ w' = w := Any.bytes_HasPrefix Tryd.laysnb116 b1 o1 n c b2 o2 m d xs ys w hx hy hnc hc1 hc2
theorem Tryd.bytes_TrimPrefix (b1 o1 n c b2 o2 m d : Nat) (xs ys : List Int) (w : World) (hx : xs.length = n) (hy : ys.length = m) (hnc : n ≤ c) (hc1 : ∀ i, i < n → w.cell? ⟨b1, o1 + i, none⟩ = some (.int .u8 (xs.getD i 0))) (hc2 : ∀ i, i < m → w.cell? ⟨b2, o2 + i, none⟩ = some (.int .u8 (ys.getD i 0))) :
    Calls Tryd.prog 48 #[.slice (some ⟨b1, o1, none⟩) n c, .slice (some ⟨b2, o2, none⟩) m d] w fun e w' => e = .returned (Lib.bytesTrimPrefix b1 o1 n c xs ys) ∧ w' = w := Any.bytes_TrimPrefix Tryd.laysnb139 b1 o1 n c b2 o2 m d xs ys w hx hy hnc hc1 hc2
end Go.Proofs
