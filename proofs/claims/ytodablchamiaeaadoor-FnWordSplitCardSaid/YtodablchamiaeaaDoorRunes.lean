/- Contracts of runes (the characters of a text as a list) and text (the text of characters). -/
import Derived.Test.YtodablchamiaeaaDoorBase
namespace Go.Proofs.YtodablchamiaeaaDoor
open Go.RowKit Go.Lib U8

theorem Tryd.info21 : (Tryd.prog.info? 21).map (fun i => (i.zero, i.size, i.bytes)) = some (some (.int .i32 0), 1, 4) := by kernel_rfl

/-- Characters as cells. -/
def cells (rs : List Nat) : List Value := rs.map fun (r : Nat) => Value.int .i32 (r : Int)
theorem cells_length (rs : List Nat) : (cells rs).length = rs.length := by simp [cells]
theorem cells_append (a b : List Nat) : cells (a ++ b) = cells a ++ cells b := by simp [cells]
theorem cells_get (rs : List Nat) (j : Nat) : (cells rs)[j]? = rs[j]?.map fun (r : Nat) => Value.int .i32 (r : Int) := by simp [cells]

theorem owns_below {B : Nat} {e : TypeId} {k : Nat} {v : Value} {n : Nat} {xs : List Value} {w w' : World} (h : w.ownsRow B e k v n xs) (hb : Below w.heap.size w w') : w'.ownsRow B e k v n xs := by
  refine ⟨h.1, ?_⟩
  rcases h.2 with h2 | ⟨g, cap, cur, hv, hg, hh, r⟩
  · exact .inl h2
  · have hlt : g < w.heap.size := (Array.getElem?_eq_some_iff.1 hh).1
    exact .inr ⟨g, cap, cur, hv, hg, (hb.block g hlt).trans hh, r⟩
theorem owns_base {B B' : Nat} {e : TypeId} {k : Nat} {v : Value} {n : Nat} {xs : List Value} {w : World} (h : w.ownsRow B e k v n xs) (hb : B' ≤ B) : w.ownsRow B' e k v n xs := by
  refine ⟨h.1, ?_⟩
  rcases h.2 with h2 | ⟨g, cap, cur, hv, hg, r⟩
  · exact .inl h2
  · exact .inr ⟨g, cap, cur, hv, by omega, r⟩

theorem owns_slice {B : Nat} {e : TypeId} {k : Nat} {v : Value} {n : Nat} {xs : List Value} {w : World} (h : w.ownsRow B e k v n xs) : ∃ ao cap, v = .slice ao n cap := by
  rcases h.2 with ⟨hv, hn⟩ | ⟨g, cap, cur, hv, _⟩
  · exact ⟨none, 0, by rw [hv, hn]⟩
  · exact ⟨_, _, hv⟩
theorem owns_some {B : Nat} {e : TypeId} {k : Nat} {ao : Option Addr} {cap n : Nat} {xs : List Value} {w : World} (h : w.ownsRow B e k (.slice ao n cap) n xs) (hn : 0 < n) : ∃ g, B ≤ g ∧ ao = some ⟨g, 0, none⟩ := by
  rcases h.2 with ⟨_, h0⟩ | ⟨g, cap', cur, hv, hg, _⟩
  · omega
  · cases hv; exact ⟨g, hg, rfl⟩
theorem cellOf {w : World} {base g n cap : Nat} {rs : List Nat} (h : w.ownsRow base 21 1 (.slice (some ⟨g, 0, none⟩) n cap) n (cells rs)) (j : Nat) (hj : j < rs.length) : w.cell? ⟨g, j, none⟩ = some (.int .i32 (rs[j]'hj : Nat)) := by
  have hn : rs.length = n := by have := h.1; rw [cells_length] at this; omega
  rw [World.ownsRow.cellAt h j (by omega), cells_get, List.getElem?_eq_getElem hj]
  rfl

set_option maxHeartbeats 800000 in
/-- THE CHARACTERS OF A TEXT, as a list of the call's own. -/
theorem runes_any (rs : List Nat) (w : World) (hs : Scs rs) (hl : rs.length ≤ 1000000) :
    Calls Tryd.prog 19 #[.string (txt (enc rs))] w fun e w' => ∃ ao cap, e = .returned (.slice ao rs.length cap) ∧ w'.ownsRow w.heap.size 21 1 (.slice ao rs.length cap) rs.length (cells rs) ∧ Below w.heap.size w w' := by
  obtain ⟨i0, hi, hz0, hz1, hz2⟩ := info_parts Tryd.info21
  go_enter Tryd.func19, Tryd.ntmps19
  go_wp2
  go_loopg [3] (rs.length + 1) (fun gk v wr => ∃ done rest, rs = done ++ rest ∧ wr.heap[w.heap.size]? = some (.stringIter (txt (enc rs)) (enc done).length) ∧ wr.ownsRow (w.heap.size + 1) 21 1 v done.length (cells done) ∧ rest.length < gk ∧ Below w.heap.size w wr)
  case atStart => exact ⟨[], rs, rfl, by simp [World.iter_heap, enc], World.ownsRow_nil _ _ _ _, by omega, (Below.refl _ _).alloc (Nat.le_refl _) _⟩
  case round =>
    obtain ⟨done, rest, hrs, hit, hown, hg, hb⟩ := hrel
    have hsz : w.heap.size < wr.heap.size := (Array.getElem?_eq_some_iff.1 hit).1
    have hl2 : done.length + rest.length ≤ 1000000 := by rw [hrs, List.length_append] at hl; exact hl
    cases rest with
    | nil =>
      have hp : ¬ (enc done).length < (txt (enc rs)).size := by rw [hrs, List.append_nil, txt_size]; omega
      have hnx : ∀ ty, (Instr.next (.pointer (some ⟨w.heap.size, 0, none⟩)) true ty).run Tryd.prog wr = _ := fun ty => run_next_end_at wr w.heap.size _ _ ty hit hp
      have HR := Lib.hid hrs
      clear hrs
      go_wp2
      go_ret
      have e := HR.out
      rw [List.append_nil] at e
      subst e
      have h2 := owns_base hown (B' := w.heap.size) (by omega)
      obtain ⟨ao, cap, rfl⟩ := owns_slice h2
      exact ⟨ao, cap, rfl, h2, hb⟩
    | cons r rest =>
      have hr : Sc r := by rw [hrs] at hs; exact hs.right.head
      have hri := hr.i32
      have hlen : (enc (done ++ [r])).length = (enc done).length + (enc1 r).length := by rw [enc_append, List.length_append, enc_one]
      have hp : (enc done).length < (txt (enc rs)).size := by
        have := enc1_pos r
        rw [hrs, txt_size, enc_append, List.length_append, enc_cons, List.length_append]; omega
      have hnx : ∀ ty, (Instr.next (.pointer (some ⟨w.heap.size, 0, none⟩)) true ty).run Tryd.prog wr = .ok (.tuple #[.bool true, .int .i64 (enc done).length, .int .i32 r]) (wr.iterAt w.heap.size (txt (enc rs)) (enc (done ++ [r])).length) := fun ty => by
        rw [run_next_any_at wr w.heap.size _ _ ty hit hp, hlen]
        rw [hrs, decode_txt done rest r hr]
      rw [List.length_cons] at hg hl2
      obtain ⟨gk, rfl⟩ : ∃ m, gk = m + 1 := ⟨gk - 1, by omega⟩
      have hit2 := iterAt_heap wr w.heap.size (txt (enc rs)) _ (enc (done ++ [r])).length hit
      have hown2 := ownsRow_iterAt hown (k := w.heap.size) (by omega) (txt (enc rs)) (enc (done ++ [r])).length
      have hb2 := below_iterAt hb (k := w.heap.size) (Nat.le_refl _) (txt (enc rs)) (enc (done ++ [r])).length
      have hsz2 : w.heap.size < (wr.iterAt w.heap.size (txt (enc rs)) (enc (done ++ [r])).length).heap.size := by rw [iterAt_size]; exact hsz
      generalize wr.iterAt w.heap.size (txt (enc rs)) (enc (done ++ [r])).length = wi at *
      have HR := Lib.hid hrs
      have HL := Lib.hid hlen
      clear hrs hlen hit hown hb
      go_wp2_with (at_builtin; refine wpList_append_own _ rfl _ _ 24 rfl (w.heap.size + 1) 21 i0 (.int .i32 0) 1 4 Tryd.underlying24 hi hz0 hz1 hz2 rfl (by decide) _ _ _ rfl (hown2.alloc _) ⟨wi.heap.size, 0, none⟩ 1 1 [.int .i32 r] rfl rfl ?c1 ?c2 ?c3 ?c4 ?c5 ?_)
      case c1 =>
        intro j u hj
        match j, hj with
        | 0, hj => simp at hj; subst hj; simp [Addr.add]
      case c2 => intro u hu; simp at hu; subst hu; rfl
      case c3 => unfold maxLen; omega
      case c4 => omega
      case c5 => simp; omega
      intro v' w2 hown' hgrow _
      go_wp2
      go_roundg gk
      case rel =>
        refine ⟨done ++ [r], rest, by rw [HR.out]; simp, ?_, ?_, by omega, ?_⟩
        · rw [hgrow.block w.heap.size (by simp; omega) (fun e => by have := (hown2.lt _ e.symm).1; omega), alloc_old wi _ _ hsz2]; exact hit2
        · rw [List.length_append, cells_append]; exact hown'
        · exact (hb2.alloc (by omega) _).grown hgrow (by simp; omega) (fun k hk => by have := (hown2.lt k hk).1; omega)
      case measure => omega

/-- The text of characters. -/
theorem encode_enc1 (r : Nat) (h : Sc r) : Utf8.encode (r : Int) = txt (enc1 r) := by
  unfold Sc at h
  have hv : Utf8.valid (r : Int) = true := by unfold Utf8.valid; simp; omega
  unfold Utf8.encode
  rw [hv]
  simp only [if_true, Int.toNat_natCast]
  by_cases a : r < 128
  · rw [if_pos a, enc1_a a]; rfl
  rw [if_neg a]
  by_cases b : r < 2048
  · rw [if_pos b, enc1_b (by omega) b]
    have e0 : (192 + (r : Int) / 64).toNat = 0xC0 + r / 64 := by omega
    have e1 : (128 + (r : Int) % 64).toNat = 0x80 + r % 64 := by omega
    rw [e0, e1]; rfl
  rw [if_neg b]
  by_cases c : r < 65536
  · rw [if_pos c, enc1_c (by omega)]
    have e0 : (224 + (r : Int) / 4096).toNat = 0xE0 + r / 4096 := by omega
    have e1 : (128 + (r : Int) / 64 % 64).toNat = 0x80 + r / 64 % 64 := by omega
    have e2 : (128 + (r : Int) % 64).toNat = 0x80 + r % 64 := by omega
    rw [e0, e1, e2]; rfl
  · rw [if_neg c, enc1_d (by omega) (by omega)]
    have e0 : (240 + (r : Int) / 262144).toNat = 0xF0 + r / 262144 := by omega
    have e1 : (128 + (r : Int) / 4096 % 64).toNat = 0x80 + r / 4096 % 64 := by omega
    have e2 : (128 + (r : Int) / 64 % 64).toNat = 0x80 + r / 64 % 64 := by omega
    have e3 : (128 + (r : Int) % 64).toNat = 0x80 + r % 64 := by omega
    rw [e0, e1, e2, e3]; rfl

theorem runesBytes_go : ∀ (rs done : List Nat), Scs rs → (rs.map fun (r : Nat) => (r : Int)).foldl (fun s n => s ++ Utf8.encode n) (txt (enc done)) = txt (enc (done ++ rs))
  | [], done, _ => by simp
  | r :: rs, done, h => by
    rw [List.map_cons, List.foldl_cons, encode_enc1 r h.head, txt_append]
    have := runesBytes_go rs (done ++ [r]) h.tail
    rw [enc_append, enc_one, List.append_assoc] at this
    exact this
theorem runesBytes_enc (rs : List Nat) (h : Scs rs) : runesBytes (rs.map fun (r : Nat) => (r : Int)) = txt (enc rs) := runesBytes_go rs [] h

/-- A list of characters that is owned, turned into a text. -/
theorem run_text {w : World} {base : Nat} {v : Value} {n : Nat} (rs : List Nat) (h : Scs rs) (hown : w.ownsRow base 21 1 v n (cells rs)) :
    (convert 24 9 v).run Tryd.prog w = .ok (.string (txt (enc rs))) w := by
  have hn : rs.length = n := by have := hown.1; rw [cells_length] at this; omega
  rcases hown.2 with ⟨rfl, h0⟩ | ⟨g, cap, cur, rfl, _⟩
  · have : rs = [] := List.eq_nil_of_length_eq_zero (by omega)
    subst this
    exact run_convert_runes_nil w _ _ 21 0 0 Tryd.underlying24 Tryd.underlying21 Tryd.underlying9
  · have hc := World.ownsRow.cells hown (g := g) rfl
    rw [run_convert_runes w _ _ 21 ⟨g, 0, none⟩ n cap (rs.map fun (r : Nat) => (r : Int)) (by simp; omega) Tryd.underlying24 Tryd.underlying21 Tryd.underlying9]
    · rw [List.take_of_length_le (by simp; omega), runesBytes_enc rs h]
    · intro j hj
      rw [List.length_map] at hj
      apply hc j
      rw [cells_get, List.getElem?_eq_getElem hj]
      simp [List.getD, List.getElem?_eq_getElem hj]

theorem text_any {base : Nat} {v : Value} {n : Nat} (rs : List Nat) (w : World) (h : Scs rs) (hown : w.ownsRow base 21 1 v n (cells rs)) :
    Calls Tryd.prog 20 #[v] w fun e w' => e = .returned (.string (txt (enc rs))) ∧ w' = w := by
  have hcv := run_text rs h hown
  go_enter Tryd.func20, Tryd.ntmps20
  go_wp2
  go_ret
  exact ⟨rfl, rfl⟩

end Go.Proofs.YtodablchamiaeaaDoor
