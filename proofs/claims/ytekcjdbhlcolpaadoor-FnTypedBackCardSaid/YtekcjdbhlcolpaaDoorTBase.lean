/- The ground of the seat of properties: rows, bytes; no function of the program is walked here. -/
import Derived.Test.YtekcjdbhlcolpaaDoorProg
import Derived.Test.YtekcjdbhlcolpaaDoorTPlain
import Derived.Test.YtekcjdbhlcolpaaDoorTMap
import Derived.WalkKit
import Derived.WalkSmall
import Derived.Lib.OthersKept
import Derived.Lib.Hide
import Derived.Laws.OwnMore
import Derived.OwnWalk
import Derived.Laws.Cover4
import Derived.Deep.LoopGhost
import Derived.Laws.CopyOwn
import Derived.Laws.BytesArg
import Derived.Lib.ConvBytes
import Derived.Laws.IdiomStrings
namespace Go.Proofs.YtekcjdbhlcolpaaDoor
open Go.RowKit U8
open Go.Lib hiding intOf


theorem ret_int {k : IntKind} {a b : Int} (h : a = b) : Ending.returned (.int k a) = .returned (.int k b) := by rw [h]
theorem ret_bool {a b : Bool} (h : a = b) : Ending.returned (.bool a) = .returned (.bool b) := by rw [h]
theorem ret_str {a b : ByteArray} (h : a = b) : Ending.returned (.string a) = .returned (.string b) := by rw [h]
theorem owns_below {B : Nat} {e : TypeId} {k : Nat} {v : Value} {n : Nat} {xs : List Value} {w w' : World} (h : w.ownsRow B e k v n xs) (hb : Below w.heap.size w w') : w'.ownsRow B e k v n xs := by
  refine ⟨h.1, ?_⟩
  rcases h.2 with h2 | ⟨g, cap, cur, hv, hg, hh, r⟩
  · exact .inl h2
  · have hlt : g < w.heap.size := (Array.getElem?_eq_some_iff.1 hh).1
    exact .inr ⟨g, cap, cur, hv, hg, (hb.block g hlt).trans hh, r⟩
theorem owns_base {B B' : Nat} {e : TypeId} {k : Nat} {v : Value} {n : Nat} {xs : List Value} {w : World} (h : w.ownsRow B e k v n xs) (hb : B' ≤ B) : w.ownsRow B' e k v n xs := by
  refine ⟨h.1, ?_⟩
  rcases h.2 with h2 | ⟨g, cap, cur, hv, hg, r⟩
  · exact .inl h2
  · exact .inr ⟨g, cap, cur, hv, by omega, r⟩
theorem owns_slice {B : Nat} {e : TypeId} {k : Nat} {v : Value} {n : Nat} {xs : List Value} {w : World} (h : w.ownsRow B e k v n xs) : ∃ ao cap, v = .slice ao n cap := by
  rcases h.2 with ⟨hv, hn⟩ | ⟨g, cap, cur, hv, _⟩
  · exact ⟨none, 0, by rw [hv, hn]⟩
  · exact ⟨_, _, hv⟩
theorem owns_some {B : Nat} {e : TypeId} {k : Nat} {ao : Option Addr} {cap n : Nat} {xs : List Value} {w : World} (h : w.ownsRow B e k (.slice ao n cap) n xs) (hn : 0 < n) : ∃ g, B ≤ g ∧ ao = some ⟨g, 0, none⟩ := by
  rcases h.2 with ⟨_, h0⟩ | ⟨g, cap', cur, hv, hg, _⟩
  · omega
  · cases hv; exact ⟨g, hg, rfl⟩
theorem byteCells_get (l : List UInt8) (j : Nat) : (byteCells l)[j]? = l[j]?.map fun b => Value.int .u8 b.toNat := by simp [byteCells]
/-- A row of bytes, turned into a text. -/
theorem run_bytes_text {w : World} {g n cap : Nat} (l : List UInt8) (hn : l.length = n) (hc : ∀ j, j < n → w.cell? ⟨g, j, none⟩ = (byteCells l)[j]?) :
    (convert 53 9 (.slice (some ⟨g, 0, none⟩) n cap)).run Tryd.prog w = .ok (.string (txt l)) w := by
  have := run_convert_bytes_arg (P := Tryd.prog) w 53 5 Tryd.underlying53 Tryd.underlying5 g 0 n cap (l.map fun b => (b.toNat : Int)) (by simpa using hn) (fun i hi => by
    rw [Nat.zero_add, hc i hi, byteCells_get, List.getElem?_eq_getElem (by omega)]
    simp [List.getD, List.getElem?_eq_getElem (show i < l.length by omega)]) 9 Tryd.underlying9
  have hm : ((l.map fun b => (b.toNat : Int)).map fun n => UInt8.ofNat n.toNat) = l := by
    rw [List.map_map]
    exact (List.map_congr_left (fun b _ => by simp)).trans (List.map_id l)
  have e : strOfNums (l.map fun b => (b.toNat : Int)) = txt l := by
    unfold strOfNums txt
    rw [hm]
  rw [this, e]

theorem chain {w a b : World} (h : Below w.heap.size w a) (k : Below a.heap.size a b) : Below w.heap.size w b := h.trans (k.mono h.size)

/-- A row of no element is the call's own, whatever its block holds. -/
theorem owns_none {B : Nat} (e : TypeId) (w : World) : w.ownsRow B e 1 (.slice none 0 0) 0 [] := ⟨rfl, .inl ⟨rfl, rfl⟩⟩

end Go.Proofs.YtekcjdbhlcolpaaDoor
