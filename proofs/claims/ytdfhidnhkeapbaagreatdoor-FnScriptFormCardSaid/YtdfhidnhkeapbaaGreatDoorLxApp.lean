/- The lexer's appendRune and emit, errorf. -/
import Derived.Test.YtdfhidnhkeapbaaGreatDoorLxBase
namespace Go.Proofs.YtdfhidnhkeapbaaGreatDoor
open Go.RowKit U8
open Go.Lib hiding intOf

theorem Tryz.infoItem : (Tryz.prog.info? 138).map (fun i => (i.zero, i.size, i.bytes)) = some (some (.agg #[.int .i64 0, .int .i64 0, .string ⟨#[]⟩]), 3, 32) := by kernel_rfl
theorem txt_data (b : ByteArray) : txt b.data.toList = b := by
  obtain ⟨a⟩ := b
  simp [txt]
theorem runesBytes_encA (rs : List Nat) : runesBytes (rs.map fun (r : Nat) => (r : Int)) = txt (encA rs) := by
  have go : ∀ (rs done : List Nat), (rs.map fun (r : Nat) => (r : Int)).foldl (fun s n => s ++ Utf8.encode n) (txt (encA done)) = txt (encA (done ++ rs)) := by
    intro rs
    induction rs with
    | nil => intro done; rw [List.map_nil, List.foldl_nil, List.append_nil]
    | cons r rs ih =>
      intro done
      have e : txt (encA done) ++ Utf8.encode (r : Int) = txt (encA (done ++ [r])) := by
        rw [encA_snoc, ← txt_append, txt_data]
      rw [List.map_cons, List.foldl_cons, e, ih, List.append_assoc, List.singleton_append]
  have h0 : txt (encA []) = ByteArray.empty := rfl
  have := go rs []
  rw [h0, List.nil_append] at this
  exact this
theorem run_runes_txt {w : World} {base : Nat} {v : Value} {n : Nat} (rs : List Nat) (hown : w.ownsRow base 21 1 v n (cells rs)) :
    (convert 114 9 v).run Tryz.prog w = .ok (.string (txt (encA rs))) w := by
  have hn : rs.length = n := by have := hown.1; rw [cells_length] at this; omega
  rcases hown.2 with ⟨rfl, h0⟩ | ⟨g, cap, cur, rfl, _⟩
  · have : rs = [] := List.eq_nil_of_length_eq_zero (by omega)
    subst this
    exact run_convert_runes_nil w _ _ 21 0 0 Tryz.underlying114 Tryz.underlying21 Tryz.underlying9
  · have hc := World.ownsRow.cells hown (g := g) rfl
    rw [run_convert_runes w _ _ 21 ⟨g, 0, none⟩ n cap (rs.map fun (r : Nat) => (r : Int)) (by simp; omega) Tryz.underlying114 Tryz.underlying21 Tryz.underlying9]
    · rw [List.take_of_length_le (by simp; omega), runesBytes_encA rs]
    · intro j hj
      rw [List.length_map] at hj
      apply hc j
      rw [cells_get, List.getElem?_eq_getElem hj]
      simp [List.getD, List.getElem?_eq_getElem hj]
theorem own_apart {B B2 n n2 k k2 : Nat} {e e2 : TypeId} {v v2 : Value} {xs xs2 : List Value} {w : World} (h : w.ownsRow B e k v n xs) (h2 : w.ownsRow B2 e2 k2 v2 n2 xs2) (hT : e ≠ e2) (g : Nat) (hg : v2.ownBlock = some g) : v.ownBlock ≠ some g := by
  rcases h2.2 with ⟨rfl, _⟩ | ⟨g2, cap, cur, rfl, _, hh, _⟩
  · cases hg
  · have : g2 = g := by simpa [Value.ownBlock] using hg
    subst this
    exact own_ne_type h hh (fun e => hT e.symm)
/-- The characters' row grew, and its cell is written. -/
theorem Lx.app6 {w0 : World} {b : Nat} {s rest : List UInt8} {wd : Nat} {acc acc2 : List Nat} {its : List LI} {W W3 : World} {vr v2 : Value} (h : Lx w0 b s rest wd acc its W) (hv : W.cell? ⟨b, 6, none⟩ = some vr) (hb3 : Below w0.heap.size W W3)
    (hkeep : ∀ k, k < W.heap.size → vr.ownBlock ≠ some k → W3.heap[k]? = W.heap[k]?) (hown : W3.ownsRow w0.heap.size 21 1 v2 acc2.length (cells acc2)) : Lx w0 b s rest wd acc2 its (W3.setCell ⟨b, 6, none⟩ v2) := by
  obtain ⟨h1, h2, h3, q, st, z1, z2, vr', vi, hq, hst, hb, hr, hi⟩ := h
  obtain rfl : vr' = vr := by simpa [World.cell?, hb] using hv
  have hb' := (hkeep b (Array.getElem?_eq_some_iff.1 hb).1 (own_ne_type hr hb (by decide))).trans hb
  have hi' : W3.ownsRow w0.heap.size 138 3 vi its.length (its.flatMap liCells) := owns_keep hi fun g hg => hkeep g (hi.lt g hg).2 (own_apart hr hi (by decide) g hg)
  refine ⟨h1, (h2.trans hb3).setCell (p := ⟨b, 6, none⟩) h1 _, h3, q, st, z1, z2, v2, vi, hq, hst, ?_, ?_, ?_⟩
  · simp [World.setCell, Array.getElem?_modify, hb']
  · exact owns_keep hown fun g hg => Below.heap_setCell _ _ _ _ (fun e => own_ne_type hown hb' (by decide) (by rw [hg, e]))
  · exact owns_keep hi' fun g hg => Below.heap_setCell _ _ _ _ (fun e => own_ne_type hi' hb' (by decide) (by rw [hg, e]))
/-- The items' row grew, and its cell is written. -/
theorem Lx.app7 {w0 : World} {b : Nat} {s rest : List UInt8} {wd : Nat} {acc : List Nat} {its its2 : List LI} {W W3 : World} {vi v2 : Value} (h : Lx w0 b s rest wd acc its W) (hv : W.cell? ⟨b, 7, none⟩ = some vi) (hb3 : Below w0.heap.size W W3)
    (hkeep : ∀ k, k < W.heap.size → vi.ownBlock ≠ some k → W3.heap[k]? = W.heap[k]?) (hown : W3.ownsRow w0.heap.size 138 3 v2 its2.length (its2.flatMap liCells)) : Lx w0 b s rest wd acc its2 (W3.setCell ⟨b, 7, none⟩ v2) := by
  obtain ⟨h1, h2, h3, q, st, z1, z2, vr, vi', hq, hst, hb, hr, hi⟩ := h
  obtain rfl : vi' = vi := by simpa [World.cell?, hb] using hv
  have hb' := (hkeep b (Array.getElem?_eq_some_iff.1 hb).1 (own_ne_type hi hb (by decide))).trans hb
  have hr' : W3.ownsRow w0.heap.size 21 1 vr acc.length (cells acc) := owns_keep hr fun g hg => hkeep g (hr.lt g hg).2 (own_apart hi hr (by decide) g hg)
  refine ⟨h1, (h2.trans hb3).setCell (p := ⟨b, 7, none⟩) h1 _, h3, q, st, z1, z2, vr, v2, hq, hst, ?_, ?_, ?_⟩
  · simp [World.setCell, Array.getElem?_modify, hb']
  · exact owns_keep hr' fun g hg => Below.heap_setCell _ _ _ _ (fun e => own_ne_type hr' hb' (by decide) (by rw [hg, e]))
  · exact owns_keep hown fun g hg => Below.heap_setCell _ _ _ _ (fun e => own_ne_type hown hb' (by decide) (by rw [hg, e]))
set_option maxHeartbeats 1600000 in
set_option maxRecDepth 100000 in
theorem appendRune_any (w0 : World) (b : Nat) (s rest : List UInt8) (r wd : Nat) (acc : List Nat) (its : List LI) (w : World) (h : Lx w0 b s rest wd acc its w) (hl : acc.length ≤ 1000000) :
    Calls Tryz.prog 135 #[.pointer (some ⟨b, 0, none⟩), .int .i32 r] w fun e w' => e = .returned (.tuple #[]) ∧ Lx w0 b s rest wd (acc ++ [r]) its w' := by
  obtain ⟨i0, hi, hz0, hz1, hz2⟩ := info_parts Tryz.info21
  have HL := Lib.hid h
  have hsz := h.below0.size
  obtain ⟨q, st, z1, z2, vr, vi, hq2, _, c0, _, c2, _, c4, c6, _, f, hr, _⟩ := h.vals
  have hlb := h.lt
  obtain ⟨ao, cap, hvr⟩ := owns_slice hr
  subst hvr
  have HR := Lib.hid hr
  clear h hq2 hr
  go_enter Tryz.func135, Tryz.ntmps135
  go_wp2_with (at_builtin; refine wpList_app1 rfl _ _ 114 21 rfl i0 (.int .i32 0) 4 Tryz.underlying114 hi hz0 hz1 hz2 rfl w0.heap.size _ acc.length _ rfl HR.out (.int .i32 r) rfl rfl (by omega) (by omega) hsz ?_)
  intro ao2 cap2 w3 hown3 hb3 hkeep
  have HF : Hid (Lx w0 b s rest wd (acc ++ [r]) its (w3.setCell ⟨b, 6, none⟩ (.slice ao2 (acc.length + 1) cap2))) :=
    HL.out.app6 c6 hb3 hkeep (by rw [cells_append, List.length_append]; exact hown3)
  have hb' := hkeep b hlb (by
    obtain ⟨_, _, _, q, st, z1, z2, vr, vi, _, _, hb, hr, _⟩ := HL.out
    have : vr = .slice ao acc.length cap := by simpa [World.cell?, hb] using c6
    rw [← this]
    exact own_ne_type hr hb (by decide))
  have f6 : w3.frozen? ⟨b, 6, none⟩ = false := by
    have := f 6
    unfold World.frozen? at this ⊢
    rw [hb']; exact this
  have c6' : w3.cell? ⟨b, 6, none⟩ = some (.slice ao acc.length cap) := by
    have := c6
    unfold World.cell? at this ⊢
    rw [hb']; exact this
  clear hown3 hb3 hkeep hb' f c0 c2 c4 c6
  go_wp2
  go_end0
  exact ⟨rfl, HF.out⟩
end Go.Proofs.YtdfhidnhkeapbaaGreatDoor
