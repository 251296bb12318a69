/- WriteByte at a builder of the call's own, beside a row of bytes of the call's own that it leaves alone. -/
import Derived.Test.YthanbbflemkomaaDoorCBase
import Derived.Test.YthanbbflemkomaaDoorCPlain
import Derived.Test.YthanbbflemkomaaDoorApp
namespace Go.Proofs.YthanbbflemkomaaDoor
open Go.RowKit U8
open Go.Lib hiding intOf

theorem Tryd.info5 : (Tryd.prog.info? 5).map (fun i => (i.zero, i.size, i.bytes)) = some (some (.int .u8 0), 1, 1) := by kernel_rfl

/-- Block b is a builder that holds these bytes and has been used; its row of bytes is not block g. -/
def BldN (B b g : Nat) (l : List UInt8) (w : World) : Prop :=
  B ≤ b ∧ b < g ∧ g < w.heap.size ∧ ∃ v, w.heap[b]? = some (.cells #[.pointer (some ⟨b, 0, none⟩), v] 53 (0, 0)) ∧ w.ownsRowF B 5 1 v l.length (byteCells l) ∧ v.ownBlock ≠ some b ∧ v.ownBlock ≠ some g

theorem BldN.bld {B b g : Nat} {l : List UInt8} {w : World} (h : BldN B b g l w) : Bld B b l w := by
  obtain ⟨hB, _, _, v, hbk, hown, hne, _⟩ := h
  exact .inr ⟨hB, v, hbk, by rw [byteCells_length]; exact hown, hne⟩

/-- A builder that 'Grow' has used, and a new row behind it. -/
theorem bldN_new {B b n : Nat} {w : World} (hB : B ≤ b) (hbk : w.heap[b]? = some (.cells #[.pointer none, .slice none 0 0] 53 (0, 0))) (hBw : B ≤ w.heap.size) (hn : n ≤ 281474976710656) :
    Calls Tryd.prog 60 #[.pointer (some ⟨b, 0, none⟩), .int .i64 n] w fun e w' => e = .returned (.tuple #[]) ∧ (∀ W, Below w'.heap.size w' W → w'.heap.size < W.heap.size → BldN B b w'.heap.size [] W) ∧ Below B w w' := by
  refine (Tryd.Builder_Grow_fresh B b n w hB hbk hBw hn).mono ?_
  rintro e w' ⟨rfl, h1, h2⟩
  refine ⟨rfl, ?_, h2⟩
  intro W hb hW
  obtain ⟨hB, v, hbk, hown, hne⟩ := BuilderAtF.of h1
  have hlt : b < w'.heap.size := (Array.getElem?_eq_some_iff.1 hbk).1
  refine ⟨hB, hlt, hW, v, (hb.block b hlt).trans hbk, ⟨hown.1, ?_⟩, hne, ?_⟩
  · rcases hown.2 with h2 | ⟨g, cap, cur, fz, hv, hg, hh, r⟩
    · exact .inl h2
    · exact .inr ⟨g, cap, cur, fz, hv, hg, (hb.block g (Array.getElem?_eq_some_iff.1 hh).1).trans hh, r⟩
  · intro e
    have := (hown.lt _ e).2
    omega

set_option maxHeartbeats 2000000 in
set_option maxRecDepth 100000 in
theorem bldN_byte (B b g : Nat) (l : List UInt8) (c : Int) (w : World) (h : BldN B b g l w) (h0 : 0 ≤ c) (h1 : c ≤ 255) (hl : l.length + 1 ≤ 140737488355328) :
    Calls Tryd.prog 62 #[.pointer (some ⟨b, 0, none⟩), .int .u8 c] w fun e w' => e = .returned .nilIface ∧ BldN B b g (l ++ [c.toNat.toUInt8]) w' ∧ Below B w w' ∧ w'.heap[g]? = w.heap[g]? := by
  obtain ⟨i0, hi, hz0, hz1, hz2⟩ := info_parts Tryd.info5
  obtain ⟨hB, hbg, hgw, v, hbk, hown, hne, hng⟩ := h
  have hlt : b < w.heap.size := by omega
  have c0 : w.cell? ⟨b, 0, none⟩ = some (.pointer (some ⟨b, 0, none⟩)) := by rw [Lib.cell_of_heap hbk]; rfl
  have c1 : w.cell? ⟨b, 1, none⟩ = some v := by rw [Lib.cell_of_heap hbk]; rfl
  have hc : (c.toNat.toUInt8.toNat : Int) = c := by rw [u8n (by omega)]; omega
  have HC := Lib.hid hc
  clear hc
  go_enter Tryd.func62, Tryd.ntmps62
  go_wp2_with (go_at_call 80; refine (Any.Builder_copyCheck_used Tryd.lays240 Tryd.Builder_X72_240 b _ c0).mono ?_)
  rintro e w1 ⟨rfl, rfl⟩
  go_wp2_with (at_builtin; (refine wpList_append_sep rfl _ _ 39 rfl B 5 i0 (.int .u8 0) 1 Tryd.underlying39 hi hz0 hz1 hz2 rfl _ _ _ rfl (hown.alloc _) ⟨w1.heap.size, 0, none⟩ 1 1 [.int .u8 c] rfl rfl ?c1 ?c2 ?c3 ?c4 ?c5 ?_))
  case c1 =>
    intro j u hj
    match j, hj with
    | 0, hj => simp at hj; subst hj; simp [Addr.add]
  case c2 => intro u hu; simp at hu; subst hu; rfl
  case c3 => unfold maxLen; omega
  case c4 => omega
  case c5 => simp; omega
  intro v' w2 hown' hgrow hmv
  have hb2 : w2.heap[b]? = some (.cells #[.pointer (some ⟨b, 0, none⟩), v] 53 (0, 0)) := by
    rw [hgrow.block b (by simp; omega) (fun e => hne e.symm), Lib.alloc_old w1 _ b hlt]
    exact hbk
  have hg2 : w2.heap[g]? = w1.heap[g]? := by rw [hgrow.block g (by simp; omega) (fun e => hng e.symm), Lib.alloc_old w1 _ g hgw]
  have d0 : w2.cell? ⟨b, 0, none⟩ = some (.pointer (some ⟨b, 0, none⟩)) := by rw [Lib.cell_of_heap hb2]; rfl
  have d1 : w2.cell? ⟨b, 1, none⟩ = some v := by rw [Lib.cell_of_heap hb2]; rfl
  have f1 : w2.frozen? ⟨b, 1, none⟩ = false := Lib.frozen_of_heap hb2 1
  obtain ⟨x, cap, rfl⟩ : ∃ x cap, v' = .slice (some ⟨x, 0, none⟩) (l.length + 1) cap := by
    rcases hown'.2 with ⟨_, h0⟩ | ⟨x, cap, cur, fz, hv, _⟩
    · omega
    · exact ⟨x, cap, hv⟩
  go_wp2
  go_ret
  have hnb : ∀ k, k ≤ w1.heap.size → v.ownBlock ≠ some k → (Value.slice (some ⟨x, 0, none⟩) (l.length + 1) cap).ownBlock ≠ some k := by
    intro k hk hne e
    rcases hmv with h | ⟨y, h, hy⟩
    · exact hne (h ▸ e)
    · rw [h] at e
      simp at e hy
      omega
  refine ⟨rfl, ⟨hB, hbg, ?_, .slice (some ⟨x, 0, none⟩) (l.length + 1) cap, ?_, ?_, hnb b (by omega) hne, hnb g (by omega) hng⟩, ?_, ?_⟩
  · have := hgrow.size
    simp at this ⊢; omega
  · simp [World.setCell, Array.getElem?_modify, hb2]
  · have h9 := (hown'.kept (w' := w2.setCell ⟨b, 1, none⟩ (.slice (some ⟨x, 0, none⟩) (l.length + 1) cap)) (row := some b) ⟨rfl, rfl, rfl, by simp [World.setCell], fun k _ hk => Below.heap_setCell _ _ _ _ (fun e => hk (by simp [e]))⟩ (Or.inr (hnb b (by omega) hne)))
    rw [List.length_append, byteCells_app]
    have e : byteCells [c.toNat.toUInt8] = [.int .u8 c] := by
      show [Value.int .u8 (c.toNat.toUInt8.toNat : Int)] = _
      rw [HC.out]
    rw [e]
    exact h9
  · exact (((Below.refl B w1).alloc (by omega) _).grown hgrow (by simp; omega) (fun k hk => (hown.lt k hk).1)).setCell (p := ⟨b, 1, none⟩) hB _
  · rw [Below.heap_setCell _ _ _ _ (fun e => by simp at e; omega)]
    exact hg2

end Go.Proofs.YthanbbflemkomaaDoor
