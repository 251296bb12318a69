/- The ground of the seat of shell words: bytes, rows, characters. -/
import Derived.Test.YthekblmkcfkboaaDoorShelf
import Derived.Test.YthekblmkcfkboaaDoorU8
import Derived.Test.YthekblmkcfkboaaDoorApp
import Derived.WalkKit
import Derived.WalkSmall
import Derived.Lib.OthersKept
import Derived.Lib.Hide
import Derived.Laws.OwnMore
import Derived.OwnWalk
import Derived.Laws.Cover4
import Derived.Deep.LoopGhost
import Derived.Laws.CopyOwn
import Derived.Laws.BytesArg
import Derived.Lib.ConvBytes
import Derived.Lib.UnsafeStr
import Derived.Laws.IdiomStrings
namespace Go.Proofs.YthekblmkcfkboaaDoor
open Go.RowKit U8
open Go.Lib hiding intOf

open Go.Lib hiding intOf

theorem ret_int {k : IntKind} {a b : Int} (h : a = b) : Ending.returned (.int k a) = .returned (.int k b) := by rw [h]
theorem ret_bool {a b : Bool} (h : a = b) : Ending.returned (.bool a) = .returned (.bool b) := by rw [h]
theorem ret_str {a b : ByteArray} (h : a = b) : Ending.returned (.string a) = .returned (.string b) := by rw [h]
theorem U8.Sc.i32 {r : Nat} (h : Sc r) : -2147483648 ≤ (r : Int) ∧ (r : Int) ≤ 2147483647 := by unfold Sc at h; omega
/-- Characters as cells. -/
def cells (rs : List Nat) : List Value := rs.map fun (r : Nat) => Value.int .i32 (r : Int)
theorem cells_length (rs : List Nat) : (cells rs).length = rs.length := by simp [cells]
theorem cells_append (a b : List Nat) : cells (a ++ b) = cells a ++ cells b := by simp [cells]
theorem cells_get (rs : List Nat) (j : Nat) : (cells rs)[j]? = rs[j]?.map fun (r : Nat) => Value.int .i32 (r : Int) := by simp [cells]
theorem owns_below {B : Nat} {e : TypeId} {k : Nat} {v : Value} {n : Nat} {xs : List Value} {w w' : World} (h : w.ownsRow B e k v n xs) (hb : Below w.heap.size w w') : w'.ownsRow B e k v n xs := by
  refine ⟨h.1, ?_⟩
  rcases h.2 with h2 | ⟨g, cap, cur, hv, hg, hh, r⟩
  · exact .inl h2
  · have hlt : g < w.heap.size := (Array.getElem?_eq_some_iff.1 hh).1
    exact .inr ⟨g, cap, cur, hv, hg, (hb.block g hlt).trans hh, r⟩
theorem owns_base {B B' : Nat} {e : TypeId} {k : Nat} {v : Value} {n : Nat} {xs : List Value} {w : World} (h : w.ownsRow B e k v n xs) (hb : B' ≤ B) : w.ownsRow B' e k v n xs := by
  refine ⟨h.1, ?_⟩
  rcases h.2 with h2 | ⟨g, cap, cur, hv, hg, r⟩
  · exact .inl h2
  · exact .inr ⟨g, cap, cur, hv, by omega, r⟩
theorem owns_slice {B : Nat} {e : TypeId} {k : Nat} {v : Value} {n : Nat} {xs : List Value} {w : World} (h : w.ownsRow B e k v n xs) : ∃ ao cap, v = .slice ao n cap := by
  rcases h.2 with ⟨hv, hn⟩ | ⟨g, cap, cur, hv, _⟩
  · exact ⟨none, 0, by rw [hv, hn]⟩
  · exact ⟨_, _, hv⟩
theorem owns_some {B : Nat} {e : TypeId} {k : Nat} {ao : Option Addr} {cap n : Nat} {xs : List Value} {w : World} (h : w.ownsRow B e k (.slice ao n cap) n xs) (hn : 0 < n) : ∃ g, B ≤ g ∧ ao = some ⟨g, 0, none⟩ := by
  rcases h.2 with ⟨_, h0⟩ | ⟨g, cap', cur, hv, hg, _⟩
  · omega
  · cases hv; exact ⟨g, hg, rfl⟩
/-- The text of characters. -/
theorem encode_enc1 (r : Nat) (h : Sc r) : Utf8.encode (r : Int) = txt (enc1 r) := by
  unfold Sc at h
  have hv : Utf8.valid (r : Int) = true := by unfold Utf8.valid; simp; omega
  unfold Utf8.encode
  rw [hv]
  simp only [if_true, Int.toNat_natCast]
  by_cases a : r < 128
  · rw [if_pos a, enc1_a a]; rfl
  rw [if_neg a]
  by_cases b : r < 2048
  · rw [if_pos b, enc1_b (by omega) b]
    have e0 : (192 + (r : Int) / 64).toNat = 0xC0 + r / 64 := by omega
    have e1 : (128 + (r : Int) % 64).toNat = 0x80 + r % 64 := by omega
    rw [e0, e1]; rfl
  rw [if_neg b]
  by_cases c : r < 65536
  · rw [if_pos c, enc1_c (by omega)]
    have e0 : (224 + (r : Int) / 4096).toNat = 0xE0 + r / 4096 := by omega
    have e1 : (128 + (r : Int) / 64 % 64).toNat = 0x80 + r / 64 % 64 := by omega
    have e2 : (128 + (r : Int) % 64).toNat = 0x80 + r % 64 := by omega
    rw [e0, e1, e2]; rfl
  · rw [if_neg c, enc1_d (by omega) (by omega)]
    have e0 : (240 + (r : Int) / 262144).toNat = 0xF0 + r / 262144 := by omega
    have e1 : (128 + (r : Int) / 4096 % 64).toNat = 0x80 + r / 4096 % 64 := by omega
    have e2 : (128 + (r : Int) / 64 % 64).toNat = 0x80 + r / 64 % 64 := by omega
    have e3 : (128 + (r : Int) % 64).toNat = 0x80 + r % 64 := by omega
    rw [e0, e1, e2, e3]; rfl
theorem oneCell_bytes (l : List UInt8) : ∀ u ∈ byteCells l, u.oneCell' = true := by
  intro u hu
  obtain ⟨b, _, rfl⟩ := List.mem_map.1 hu
  rfl
theorem byteCells_app (a b : List UInt8) : byteCells (a ++ b) = byteCells a ++ byteCells b := by simp [byteCells]
theorem byteCells_get (l : List UInt8) (j : Nat) : (byteCells l)[j]? = l[j]?.map fun b => Value.int .u8 b.toNat := by simp [byteCells]
/-- A row of bytes, turned into a text. -/
theorem run_bytes_text {w : World} {g n cap : Nat} (l : List UInt8) (hn : l.length = n) (hc : ∀ j, j < n → w.cell? ⟨g, j, none⟩ = (byteCells l)[j]?) :
    (convert 23 9 (.slice (some ⟨g, 0, none⟩) n cap)).run Tryd.prog w = .ok (.string (txt l)) w := by
  have := run_convert_bytes_arg (P := Tryd.prog) w 23 5 Tryd.underlying23 Tryd.underlying5 g 0 n cap (l.map fun b => (b.toNat : Int)) (by simpa using hn) (fun i hi => by
    rw [Nat.zero_add, hc i hi, byteCells_get, List.getElem?_eq_getElem (by omega)]
    simp [List.getD, List.getElem?_eq_getElem (show i < l.length by omega)]) 9 Tryd.underlying9
  have hm : ((l.map fun b => (b.toNat : Int)).map fun n => UInt8.ofNat n.toNat) = l := by
    rw [List.map_map]
    exact (List.map_congr_left (fun b _ => by simp)).trans (List.map_id l)
  have e : strOfNums (l.map fun b => (b.toNat : Int)) = txt l := by
    unfold strOfNums txt
    rw [hm]
  rw [this, e]
theorem bytesWorld_below {B : Nat} {w W : World} (hb : Below B w W) (hB : B ≤ W.heap.size) (e : TypeId) (s : ByteArray) : Below B w (bytesWorld W e s) :=
  hb.trans ⟨by simp [bytesWorld, World.freeze, World.alloc, World.drew, -World.alloc_eq, -World.drew_eq], by simp [bytesWorld, World.freeze, World.alloc, World.drew, -World.alloc_eq, -World.drew_eq], by simp [bytesWorld, World.freeze, World.alloc, World.drew, -World.alloc_eq, -World.drew_eq],
    by rw [bytesWorld_size]; omega, fun k hk => bytesWorld_at_old W e s k (by omega)⟩
theorem bytesWorld_cells (W : World) (s : ByteArray) : ∀ j u, (byteCells s.data.toList)[j]? = some u → (bytesWorld W 5 s).cell? ((⟨W.heap.size, 0, none⟩ : Addr).add j) = some u := by
  intro j u hu
  rw [byteCells_get] at hu
  obtain ⟨b, hb, rfl⟩ := Option.map_eq_some_iff.1 hu
  have hj : j < s.size := by rw [size_list]; exact (List.getElem?_eq_some_iff.1 hb).1
  have hadd : (⟨W.heap.size, 0, none⟩ : Addr).add j = ⟨W.heap.size, j, none⟩ := by unfold Addr.add; split <;> simp_all
  rw [hadd, bytesWorld_cell W _ s j hj]
  simp [List.getD, hb]
open Go.Lib hiding intOf

theorem chain {w a b : World} (h : Below w.heap.size w a) (k : Below a.heap.size a b) : Below w.heap.size w b := h.trans (k.mono h.size)
theorem strCells_txt (l : List UInt8) : strCells (txt l) = byteCells l := by unfold strCells byteCells; rw [txt_list]
theorem u8_toNat {n : Nat} (h : n < 256) : n.toUInt8.toNat = n := by
  show (UInt8.ofNat n).toNat = n
  rw [UInt8.toNat_ofNat']; omega
/-- A byte of a text. -/
theorem run_byte (l : List UInt8) (k : Nat) (b : UInt8) (hb : l[k]? = some b) (W : World) :
    (Instr.index 9 (.string (txt l)) (.int .i64 k)).run Tryd.prog W = .ok (.int .u8 b.toNat) W := by
  have hk : k < (txt l).size := by rw [txt_size]; exact (List.getElem?_eq_some_iff.1 hb).1
  rw [run_index_string W _ _ _ _ Tryd.underlying9, dif_pos ⟨by omega, by omega⟩]
  have e : (txt l)[(k : Int).toNat]'(by omega) = b := by
    have := (List.getElem?_eq_some_iff.1 hb).2
    rw [← this]
    simp [txt]
    rfl
  rw [e]

end Go.Proofs.YthekblmkcfkboaaDoor
