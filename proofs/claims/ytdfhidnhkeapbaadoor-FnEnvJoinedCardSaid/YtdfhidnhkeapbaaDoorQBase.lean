/- The ground of the seat of patterns: bytes, rows, characters, the Builder; valid, runes, allocBuffer. -/
import Derived.Test.YtdfhidnhkeapbaaDoorShelf
import Derived.Test.YtdfhidnhkeapbaaDoorU8
import Derived.WalkKit
import Derived.WalkSmall
import Derived.Lib.OthersKept
import Derived.Lib.Hide
import Derived.Laws.OwnMore
import Derived.OwnWalk
import Derived.Laws.Cover4
import Derived.Deep.LoopGhost
import Derived.Laws.CopyOwn
import Derived.Laws.BytesArg
import Derived.Lib.ConvBytes
import Derived.Lib.UnsafeStr
import Derived.Laws.IdiomStrings
namespace Go.Proofs.YtdfhidnhkeapbaaDoor
open Go.RowKit U8
open Go.Lib hiding intOf

theorem ret_int {k : IntKind} {a b : Int} (h : a = b) : Ending.returned (.int k a) = .returned (.int k b) := by rw [h]
theorem ret_bool {a b : Bool} (h : a = b) : Ending.returned (.bool a) = .returned (.bool b) := by rw [h]
theorem ret_str {a b : ByteArray} (h : a = b) : Ending.returned (.string a) = .returned (.string b) := by rw [h]
theorem U8.Sc.i32 {r : Nat} (h : Sc r) : -2147483648 ≤ (r : Int) ∧ (r : Int) ≤ 2147483647 := by unfold Sc at h; omega
theorem enc_size_pos (r : Nat) (rs : List Nat) : 0 < (txt (enc (r :: rs))).size := by
  have hp := enc1_pos r
  rw [txt_size, enc_cons, List.length_append]; omega
theorem rest_enc (r : Nat) (rs : List Nat) : (txt (enc (r :: rs))).extract (enc1 r).length (txt (enc (r :: rs))).size = txt (enc rs) := txt_skip (enc1 r) (enc rs)
theorem head_enc (r : Nat) (rs : List Nat) : (txt (enc (r :: rs))).extract 0 (enc1 r).length = txt (enc1 r) := txt_take (enc1 r) (enc rs)
theorem enc1_size_le (r : Nat) (rs : List Nat) : (enc1 r).length ≤ (txt (enc (r :: rs))).size := by rw [txt_size, enc_cons, List.length_append]; omega
/-- Characters as cells. -/
def cells (rs : List Nat) : List Value := rs.map fun (r : Nat) => Value.int .i32 (r : Int)
theorem cells_length (rs : List Nat) : (cells rs).length = rs.length := by simp [cells]
theorem cells_append (a b : List Nat) : cells (a ++ b) = cells a ++ cells b := by simp [cells]
theorem cells_get (rs : List Nat) (j : Nat) : (cells rs)[j]? = rs[j]?.map fun (r : Nat) => Value.int .i32 (r : Int) := by simp [cells]
theorem owns_below {B : Nat} {e : TypeId} {k : Nat} {v : Value} {n : Nat} {xs : List Value} {w w' : World} (h : w.ownsRow B e k v n xs) (hb : Below w.heap.size w w') : w'.ownsRow B e k v n xs := by
  refine ⟨h.1, ?_⟩
  rcases h.2 with h2 | ⟨g, cap, cur, hv, hg, hh, r⟩
  · exact .inl h2
  · have hlt : g < w.heap.size := (Array.getElem?_eq_some_iff.1 hh).1
    exact .inr ⟨g, cap, cur, hv, hg, (hb.block g hlt).trans hh, r⟩
theorem owns_base {B B' : Nat} {e : TypeId} {k : Nat} {v : Value} {n : Nat} {xs : List Value} {w : World} (h : w.ownsRow B e k v n xs) (hb : B' ≤ B) : w.ownsRow B' e k v n xs := by
  refine ⟨h.1, ?_⟩
  rcases h.2 with h2 | ⟨g, cap, cur, hv, hg, r⟩
  · exact .inl h2
  · exact .inr ⟨g, cap, cur, hv, by omega, r⟩
theorem owns_slice {B : Nat} {e : TypeId} {k : Nat} {v : Value} {n : Nat} {xs : List Value} {w : World} (h : w.ownsRow B e k v n xs) : ∃ ao cap, v = .slice ao n cap := by
  rcases h.2 with ⟨hv, hn⟩ | ⟨g, cap, cur, hv, _⟩
  · exact ⟨none, 0, by rw [hv, hn]⟩
  · exact ⟨_, _, hv⟩
theorem owns_some {B : Nat} {e : TypeId} {k : Nat} {ao : Option Addr} {cap n : Nat} {xs : List Value} {w : World} (h : w.ownsRow B e k (.slice ao n cap) n xs) (hn : 0 < n) : ∃ g, B ≤ g ∧ ao = some ⟨g, 0, none⟩ := by
  rcases h.2 with ⟨_, h0⟩ | ⟨g, cap', cur, hv, hg, _⟩
  · omega
  · cases hv; exact ⟨g, hg, rfl⟩
/-- The text of characters. -/
theorem encode_enc1 (r : Nat) (h : Sc r) : Utf8.encode (r : Int) = txt (enc1 r) := by
  unfold Sc at h
  have hv : Utf8.valid (r : Int) = true := by unfold Utf8.valid; simp; omega
  unfold Utf8.encode
  rw [hv]
  simp only [if_true, Int.toNat_natCast]
  by_cases a : r < 128
  · rw [if_pos a, enc1_a a]; rfl
  rw [if_neg a]
  by_cases b : r < 2048
  · rw [if_pos b, enc1_b (by omega) b]
    have e0 : (192 + (r : Int) / 64).toNat = 0xC0 + r / 64 := by omega
    have e1 : (128 + (r : Int) % 64).toNat = 0x80 + r % 64 := by omega
    rw [e0, e1]; rfl
  rw [if_neg b]
  by_cases c : r < 65536
  · rw [if_pos c, enc1_c (by omega)]
    have e0 : (224 + (r : Int) / 4096).toNat = 0xE0 + r / 4096 := by omega
    have e1 : (128 + (r : Int) / 64 % 64).toNat = 0x80 + r / 64 % 64 := by omega
    have e2 : (128 + (r : Int) % 64).toNat = 0x80 + r % 64 := by omega
    rw [e0, e1, e2]; rfl
  · rw [if_neg c, enc1_d (by omega) (by omega)]
    have e0 : (240 + (r : Int) / 262144).toNat = 0xF0 + r / 262144 := by omega
    have e1 : (128 + (r : Int) / 4096 % 64).toNat = 0x80 + r / 4096 % 64 := by omega
    have e2 : (128 + (r : Int) / 64 % 64).toNat = 0x80 + r / 64 % 64 := by omega
    have e3 : (128 + (r : Int) % 64).toNat = 0x80 + r % 64 := by omega
    rw [e0, e1, e2, e3]; rfl
theorem runesBytes_go : ∀ (rs done : List Nat), Scs rs → (rs.map fun (r : Nat) => (r : Int)).foldl (fun s n => s ++ Utf8.encode n) (txt (enc done)) = txt (enc (done ++ rs))
  | [], done, _ => by simp
  | r :: rs, done, h => by
    rw [List.map_cons, List.foldl_cons, encode_enc1 r h.head, txt_append]
    have := runesBytes_go rs (done ++ [r]) h.tail
    rw [enc_append, enc_one, List.append_assoc] at this
    exact this
theorem runesBytes_enc (rs : List Nat) (h : Scs rs) : runesBytes (rs.map fun (r : Nat) => (r : Int)) = txt (enc rs) := runesBytes_go rs [] h
theorem oneCell_bytes (l : List UInt8) : ∀ u ∈ byteCells l, u.oneCell' = true := by
  intro u hu
  obtain ⟨b, _, rfl⟩ := List.mem_map.1 hu
  rfl
theorem byteCells_app (a b : List UInt8) : byteCells (a ++ b) = byteCells a ++ byteCells b := by simp [byteCells]
theorem byteCells_get (l : List UInt8) (j : Nat) : (byteCells l)[j]? = l[j]?.map fun b => Value.int .u8 b.toNat := by simp [byteCells]
/-- A row of bytes, turned into a text. -/
theorem run_bytes_text {w : World} {g n cap : Nat} (l : List UInt8) (hn : l.length = n) (hc : ∀ j, j < n → w.cell? ⟨g, j, none⟩ = (byteCells l)[j]?) :
    (convert 52 9 (.slice (some ⟨g, 0, none⟩) n cap)).run Tryd.prog w = .ok (.string (txt l)) w := by
  have := run_convert_bytes_arg (P := Tryd.prog) w 52 5 Tryd.underlying52 Tryd.underlying5 g 0 n cap (l.map fun b => (b.toNat : Int)) (by simpa using hn) (fun i hi => by
    rw [Nat.zero_add, hc i hi, byteCells_get, List.getElem?_eq_getElem (by omega)]
    simp [List.getD, List.getElem?_eq_getElem (show i < l.length by omega)]) 9 Tryd.underlying9
  have hm : ((l.map fun b => (b.toNat : Int)).map fun n => UInt8.ofNat n.toNat) = l := by
    rw [List.map_map]
    exact (List.map_congr_left (fun b _ => by simp)).trans (List.map_id l)
  have e : strOfNums (l.map fun b => (b.toNat : Int)) = txt l := by
    unfold strOfNums txt
    rw [hm]
  rw [this, e]
/-- A text, turned into bytes: a new row of the call's own. -/
theorem run_text_bytes (W : World) (s : ByteArray) :
    (convert 9 52 (.string s)).run Tryd.prog W = .ok (.slice (some ⟨W.heap.size, 0, none⟩) s.size (grownCap W s.size 0 5)) (bytesWorld W 5 s) :=
  Go.Lib.run_convert_string_bytes W _ _ 5 s Tryd.underlying9 Tryd.underlying52 Tryd.underlying5
theorem bytesWorld_below {B : Nat} {w W : World} (hb : Below B w W) (hB : B ≤ W.heap.size) (e : TypeId) (s : ByteArray) : Below B w (bytesWorld W e s) :=
  hb.trans ⟨by simp [bytesWorld, World.freeze, World.alloc, World.drew, -World.alloc_eq, -World.drew_eq], by simp [bytesWorld, World.freeze, World.alloc, World.drew, -World.alloc_eq, -World.drew_eq], by simp [bytesWorld, World.freeze, World.alloc, World.drew, -World.alloc_eq, -World.drew_eq],
    by rw [bytesWorld_size]; omega, fun k hk => bytesWorld_at_old W e s k (by omega)⟩
theorem bytesWorld_cells (W : World) (s : ByteArray) : ∀ j u, (byteCells s.data.toList)[j]? = some u → (bytesWorld W 5 s).cell? ((⟨W.heap.size, 0, none⟩ : Addr).add j) = some u := by
  intro j u hu
  rw [byteCells_get] at hu
  obtain ⟨b, hb, rfl⟩ := Option.map_eq_some_iff.1 hu
  have hj : j < s.size := by rw [size_list]; exact (List.getElem?_eq_some_iff.1 hb).1
  have hadd : (⟨W.heap.size, 0, none⟩ : Addr).add j = ⟨W.heap.size, j, none⟩ := by unfold Addr.add; split <;> simp_all
  rw [hadd, bytesWorld_cell W _ s j hj]
  simp [List.getD, hb]
open Go.Lib hiding intOf

theorem chain {w a b : World} (h : Below w.heap.size w a) (k : Below a.heap.size a b) : Below w.heap.size w b := h.trans (k.mono h.size)
theorem strCells_txt (l : List UInt8) : strCells (txt l) = byteCells l := by unfold strCells byteCells; rw [txt_list]
open Go.Lib hiding intOf

def asc (rs : List Nat) : Prop := ∀ r ∈ rs, r < 128
theorem asc.head {r : Nat} {rs : List Nat} (h : asc (r :: rs)) : r < 128 := h r (by simp)
theorem asc.tail {r : Nat} {rs : List Nat} (h : asc (r :: rs)) : asc rs := fun x hx => h x (by simp [hx])
theorem asc.scs {rs : List Nat} (h : asc rs) : Scs rs := fun x hx => by have := h x hx; unfold Sc; omega
theorem enc1_asc {r : Nat} (h : r < 128) : enc1 r = [r.toUInt8] := by rw [enc1_a h]; simp
theorem enc_asc : ∀ {rs : List Nat}, asc rs → enc rs = rs.map Nat.toUInt8
  | [], _ => rfl
  | r :: rs, h => by rw [enc_cons, enc1_asc h.head, enc_asc h.tail]; rfl
theorem asc_len {rs : List Nat} (h : asc rs) : (enc rs).length = rs.length := by rw [enc_asc h, List.length_map]
/-- A byte of a text. -/
theorem run_byte (l : List UInt8) (k : Nat) (b : UInt8) (hb : l[k]? = some b) (W : World) :
    (Instr.index 9 (.string (txt l)) (.int .i64 k)).run Tryd.prog W = .ok (.int .u8 b.toNat) W := by
  have hk : k < (txt l).size := by rw [txt_size]; exact (List.getElem?_eq_some_iff.1 hb).1
  rw [run_index_string W _ _ _ _ Tryd.underlying9, dif_pos ⟨by omega, by omega⟩]
  have e : (txt l)[(k : Int).toNat]'(by omega) = b := by
    have := (List.getElem?_eq_some_iff.1 hb).2
    rw [← this]
    simp [txt]
    rfl
  rw [e]
theorem row_frozen (W : World) (s : ByteArray) (j : Nat) (hj : j < s.size) : (bytesWorld W 5 s).frozen? ⟨W.heap.size, j, none⟩ = false := by
  unfold World.frozen?
  rw [bytesWorld_at_new]
  simp [bytesCells]
  have : s.size = s.data.size := rfl
  omega
theorem u8_toNat {n : Nat} (h : n < 256) : n.toUInt8.toNat = n := by
  show (UInt8.ofNat n).toNat = n
  rw [UInt8.toNat_ofNat']; omega
/-- The characters of a text, as a conversion finds them. -/
theorem runesFrom_enc : ∀ (rest done : List Nat) (bound : Nat) (acc : Array Value), Scs rest → rest.length ≤ bound → Conv.runesFrom (txt (enc (done ++ rest))) bound (enc done).length acc = acc ++ (cells rest).toArray
  | [], done, 0, acc, _, _ => by simp [Conv.runesFrom, cells]
  | [], done, b + 1, acc, _, _ => by
    unfold Conv.runesFrom
    rw [if_neg (by rw [List.append_nil, txt_size]; omega)]
    simp [cells]
  | r :: rest, done, 0, acc, _, h => by simp at h
  | r :: rest, done, b + 1, acc, hs, h => by
    have hp : (enc done).length < (txt (enc (done ++ r :: rest))).size := by
      have := enc1_pos r
      rw [txt_size, enc_append, List.length_append, enc_cons, List.length_append]; omega
    unfold Conv.runesFrom
    rw [if_pos hp, decode_txt done rest r hs.head]
    have ih := runesFrom_enc rest (done ++ [r]) b (acc.push (.int .i32 (r : Int))) hs.tail (by simpa using h)
    rw [List.append_assoc, enc_append done [r], enc_one, List.length_append] at ih
    simp only [List.singleton_append] at ih
    refine Eq.trans ih ?_
    simp [cells]
def runesWorld (w : World) (rs : List Nat) : World :=
  w.drew.alloc (.cells ((cells rs).toArray ++ Array.replicate (grownCap w rs.length 0 21 - rs.length) (.int .i32 0)) 21)
theorem run_text_runes (w : World) (rs : List Nat) (h : Scs rs) (hl : rs.length ≤ 1000000) :
    (convert 9 79 (.string (txt (enc rs)))).run Tryd.prog w = .ok (.slice (some ⟨w.heap.size, 0, none⟩) rs.length (grownCap w rs.length 0 21)) (runesWorld w rs) := by
  have e : Conv.runesFrom (txt (enc rs)) (txt (enc rs)).size 0 #[] = (cells rs).toArray := by
    have := runesFrom_enc rs [] (txt (enc rs)).size #[] h (by rw [txt_size]; exact enc_length_ge rs)
    simpa [enc] using this
  have hsz : (cells rs).toArray.size = rs.length := by simp [cells]
  have := run_runes_of_string (P := Tryd.prog) w 9 79 21 (txt (enc rs)) Tryd.underlying9 Tryd.underlying79 Tryd.underlying21 (by rw [e, hsz]; omega)
  rw [e, hsz] at this
  exact this
theorem runesWorld_size (w : World) (rs : List Nat) : (runesWorld w rs).heap.size = w.heap.size + 1 := by unfold runesWorld; simp
theorem runesWorld_below {B : Nat} {w W : World} (hb : Below B w W) (hB : B ≤ W.heap.size) (rs : List Nat) : Below B w (runesWorld W rs) := hb.drew.alloc hB _
theorem runesWorld_cell (w : World) (rs : List Nat) (j : Nat) (hj : j < rs.length) : (runesWorld w rs).cell? ⟨w.heap.size, j, none⟩ = (cells rs)[j]? := by
  have h := World.cell?_alloc_mark w.drew ((cells rs).toArray ++ Array.replicate (grownCap w rs.length 0 21 - rs.length) (.int .i32 0)) 21 (0, 0) j
  have e : (runesWorld w rs).cell? ⟨w.heap.size, j, none⟩ = _ := h
  rw [e, Array.getElem?_append_left (by simpa [cells] using hj)]
  simp
theorem runesWorld_frozen (w : World) (rs : List Nat) (j : Nat) : (runesWorld w rs).frozen? ⟨w.heap.size, j, none⟩ = false := by
  have h := World.frozen?_alloc_mark w.drew ((cells rs).toArray ++ Array.replicate (grownCap w rs.length 0 21 - rs.length) (.int .i32 0)) 21 0 0 j
  have e : (runesWorld w rs).frozen? ⟨w.heap.size, j, none⟩ = _ := h
  rw [e]; simp
/-- A row of characters, turned into a text. -/
theorem run_runes_text {w : World} {g n cap : Nat} (rs : List Nat) (h : Scs rs) (hn : rs.length = n) (hc : ∀ j, j < n → w.cell? ⟨g, j, none⟩ = (cells rs)[j]?) :
    (convert 79 9 (.slice (some ⟨g, 0, none⟩) n cap)).run Tryd.prog w = .ok (.string (txt (enc rs))) w := by
  rw [run_convert_runes w _ _ 21 ⟨g, 0, none⟩ n cap (rs.map fun (r : Nat) => (r : Int)) (by simp; omega) Tryd.underlying79 Tryd.underlying21 Tryd.underlying9]
  · rw [List.take_of_length_le (by simp; omega), runesBytes_enc rs h]
  · intro j hj
    rw [List.length_map] at hj
    have hadd : (⟨g, 0, none⟩ : Addr).add j = ⟨g, j, none⟩ := by unfold Addr.add; split <;> simp_all
    rw [hadd, hc j (by omega), cells_get, List.getElem?_eq_getElem hj]
    simp [List.getD, List.getElem?_eq_getElem hj]
theorem cells_setR (l : List Nat) (k j : Nat) (u : Nat) (hj : j < l.length) : (cells (l.set k u))[j]? = if k = j then some (.int .i32 (u : Int)) else (cells l)[j]? := by
  rw [cells_get, cells_get, List.getElem?_set]
  by_cases h : k = j
  · rw [if_pos h, if_pos h, if_pos (by omega)]; rfl
  · rw [if_neg h, if_neg h]
open Go.RowKit Go.Lib U8

/-- The two tables of the decoder lie as their initialisers lay them. -/
abbrev Tabs (w : World) : Prop := Utf8Tabs 4 5 w
theorem Tabs.below {w w' : World} (h : Tabs w) (hb : Below w.heap.size w w') : Tabs w' := Utf8Tabs_below h hb
/-- UTF-8, and not longer than the statements look at. -/
def okB (s : ByteArray) : Bool := decide (s.size ≤ 4096) && validD s.data.toList
/-- A text is no such, or the code of characters. -/
theorem ok_cases (s : ByteArray) : okB s = false ∨ ∃ rs, Scs rs ∧ s = txt (enc rs) ∧ (enc rs).length ≤ 4096 ∧ okB s = true := by
  cases h : okB s with
  | false => exact .inl rfl
  | true =>
    have h1 : s.size ≤ 4096 ∧ validD s.data.toList = true := by simpa [okB] using h
    obtain ⟨rs, hs, e⟩ := text_chars h1.2
    exact .inr ⟨rs, hs, e, by have := h1.1; rw [e, txt_size] at this; exact this, rfl⟩
/-- What the decoder tells of a text that begins with a character. -/
theorem decodeGo_enc (r : Nat) (rs : List Nat) (h : Sc r) : decodeGo (txt (enc (r :: rs))) = (r, (enc1 r).length) := by
  have hp := enc1_pos r
  unfold decodeGo
  rw [if_neg (by rw [txt_size, enc_cons, List.length_append]; omega)]
  exact decode_enc r rs h
theorem dec_any (r : Nat) (rs : List Nat) (w : World) (h : Sc r) (hT : Tabs w) :
    Calls Tryd.prog 77 #[.string (txt (enc (r :: rs)))] w fun e w' => e = .returned (.tuple #[.int .i32 r, .int .i64 (enc1 r).length]) ∧ Below w.heap.size w w' := by
  have := Tryd.utf8_DecodeRuneInString (txt (enc (r :: rs))) w hT
  rw [decodeGo_enc r rs h] at this
  exact this
open Go.RowKit Go.Lib U8

theorem Tryd.info21 : (Tryd.prog.info? 21).map (fun i => (i.zero, i.size, i.bytes)) = some (some (.int .i32 0), 1, 4) := by kernel_rfl
theorem cellOf {w : World} {base g n cap : Nat} {rs : List Nat} (h : w.ownsRow base 21 1 (.slice (some ⟨g, 0, none⟩) n cap) n (cells rs)) (j : Nat) (hj : j < rs.length) : w.cell? ⟨g, j, none⟩ = some (.int .i32 (rs[j]'hj : Nat)) := by
  have hn : rs.length = n := by have := h.1; rw [cells_length] at this; omega
  rw [World.ownsRow.cellAt h j (by omega), cells_get, List.getElem?_eq_getElem hj]
  rfl
open Go.Lib hiding intOf

theorem dec_list (a rest : List UInt8) (r : Nat) (w : World) (ha : a ≠ []) (hd : decodeL (a ++ rest) = (r, a.length)) (hT : Tabs w) :
    Calls Tryd.prog 77 #[.string (txt (a ++ rest))] w fun e w' => e = .returned (.tuple #[.int .i32 r, .int .i64 a.length]) ∧ Below w.heap.size w w' := by
  have := Tryd.utf8_DecodeRuneInString (txt (a ++ rest)) w hT
  have e : decodeGo (txt (a ++ rest)) = (r, a.length) := by
    have hl : 0 < a.length := List.length_pos_iff.2 ha
    unfold decodeGo
    rw [if_neg (by rw [txt_size, List.length_append]; omega)]
    exact hd
  rw [e] at this
  exact this
theorem size_pos (a rest : List UInt8) (ha : a ≠ []) : 0 < (txt (a ++ rest)).size := by
  have hl : 0 < a.length := List.length_pos_iff.2 ha
  rw [txt_size, List.length_append]; omega
theorem part_le (a rest : List UInt8) : a.length ≤ (txt (a ++ rest)).size := by rw [txt_size, List.length_append]; omega
open Go.Lib hiding intOf

end Go.Proofs.YtdfhidnhkeapbaaDoor
