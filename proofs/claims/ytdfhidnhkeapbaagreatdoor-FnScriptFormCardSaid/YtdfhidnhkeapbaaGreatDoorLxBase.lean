/- The lexer of properties in memory; its small functions: next, backup, ignore, appendRune. -/
import Derived.Test.YtdfhidnhkeapbaaGreatDoorLxRune
import Derived.Test.YtdfhidnhkeapbaaGreatDoorGApk
import Derived.Test.YtdfhidnhkeapbaaGreatDoorLxPlain
import Derived.Deep.AppendLies
import Derived.Deep.RegionWith
import Derived.Laws.EntriesVeiled
import Derived.BigQuiet
import Derived.StillTailTactics
import Derived.Deep.Cut
import Derived.Deep.CutRange
import Derived.Deep.DeepCutAuto
import Derived.Deep.QuietTactic
namespace Go.Proofs.YtdfhidnhkeapbaaGreatDoor
open Go.RowKit U8
open Go.Lib hiding intOf

/-- An item: its kind, its place, its text. -/
structure LI where
  k : Nat
  p : Int
  v : List UInt8
def liCells (i : LI) : List Value := [.int .i64 i.k, .int .i64 i.p, .string (txt i.v)]
def liOf (i : LI) : It := (i.k, if i.k = 0 then [] else i.v)
def LSt (v : Value) : Prop := v = .nilFunc ∨ ∃ f, v = .func (.func f) #[] #[]
/-- A lexer in memory, at block b: what is left of its text, the width of the last character, the characters that were gathered, its items. -/
def Lx (w0 : World) (b : Nat) (s rest : List UInt8) (wd : Nat) (acc : List Nat) (its : List LI) (W : World) : Prop :=
  w0.heap.size ≤ b ∧ Below w0.heap.size w0 W ∧ s.length ≤ 100000 ∧ ∃ (q : List UInt8) (st : Value) (z1 z2 : Int) (vr vi : Value), s = q ++ rest ∧ LSt st ∧
    W.heap[b]? = some (.cells #[.string (txt s), st, .int .i64 q.length, .int .i64 z1, .int .i64 wd, .int .i64 z2, vr, vi] 133 (0, 0)) ∧
    W.ownsRow w0.heap.size 21 1 vr acc.length (cells acc) ∧ W.ownsRow w0.heap.size 138 3 vi its.length (its.flatMap liCells)
theorem Lx.below0 {w0 : World} {b : Nat} {s rest : List UInt8} {wd : Nat} {acc : List Nat} {its : List LI} {W : World} (h : Lx w0 b s rest wd acc its W) : Below w0.heap.size w0 W := h.2.1
theorem Lx.lt {w0 : World} {b : Nat} {s rest : List UInt8} {wd : Nat} {acc : List Nat} {its : List LI} {W : World} (h : Lx w0 b s rest wd acc its W) : b < W.heap.size := by
  obtain ⟨_, _, _, q, st, z1, z2, vr, vi, _, _, h4, _⟩ := h
  exact (Array.getElem?_eq_some_iff.1 h4).1
theorem Lx.len {w0 : World} {b : Nat} {s rest : List UInt8} {wd : Nat} {acc : List Nat} {its : List LI} {W : World} (h : Lx w0 b s rest wd acc its W) : rest.length ≤ s.length ∧ s.length ≤ 100000 := by
  obtain ⟨_, _, h3, q, st, z1, z2, vr, vi, hq, _⟩ := h
  exact ⟨by rw [hq, List.length_append]; omega, h3⟩
theorem own_ne_type {B b n k : Nat} {e : TypeId} {v : Value} {xs : List Value} {w : World} {x : Array Value} {T : TypeId} {fz : Nat × Nat} (h : w.ownsRow B e k v n xs) (hb : w.heap[b]? = some (.cells x T fz)) (hT : T ≠ e) : v.ownBlock ≠ some b := by
  intro e0
  rcases h.2 with ⟨rfl, _⟩ | ⟨g, cap, cur, rfl, _, hg, _⟩
  · cases e0
  · have : g = b := by simpa [Value.ownBlock] using e0
    subst this
    rw [hg] at hb
    cases hb
    exact hT rfl
theorem owns_keep {B n k : Nat} {e : TypeId} {v : Value} {xs : List Value} {w w' : World} (h : w.ownsRow B e k v n xs) (hb : ∀ g, v.ownBlock = some g → w'.heap[g]? = w.heap[g]?) : w'.ownsRow B e k v n xs := by
  refine ⟨h.1, ?_⟩
  rcases h.2 with h2 | ⟨g, cap, cur, rfl, hg, hh, r⟩
  · exact .inl h2
  · exact .inr ⟨g, cap, cur, rfl, hg, (hb g rfl).trans hh, r⟩
theorem owns_cut {B n k : Nat} {e : TypeId} {v : Value} {xs : List Value} {w w' : World} (h : w.ownsRow B e k v n xs) (hb : Below w.heap.size w w') : w'.ownsRow B e k v n xs :=
  owns_keep h fun g hg => by
    rcases h.2 with ⟨rfl, _⟩ | ⟨g2, cap, cur, rfl, _, hh, _⟩
    · cases hg
    · have : g2 = g := by simpa [Value.ownBlock] using hg
      subst this
      exact hb.block g2 (Array.getElem?_eq_some_iff.1 hh).1
theorem Lx.below {w0 : World} {b : Nat} {s rest : List UInt8} {wd : Nat} {acc : List Nat} {its : List LI} {W W' : World} (h : Lx w0 b s rest wd acc its W) (hb : Below W.heap.size W W') : Lx w0 b s rest wd acc its W' := by
  obtain ⟨h1, h2, h3, q, st, z1, z2, vr, vi, hq, hst, ho, hr, hi⟩ := h
  refine ⟨h1, h2.trans (hb.mono h2.size), h3, q, st, z1, z2, vr, vi, hq, hst, (hb.block b (Array.getElem?_eq_some_iff.1 ho).1).trans ho, owns_cut hr hb, owns_cut hi hb⟩
/-- Stores into the lexer's own cells. -/
theorem Lx.set {w0 : World} {b : Nat} {s rest rest2 : List UInt8} {wd wd2 : Nat} {acc acc2 : List Nat} {its its2 : List LI} {W W' : World} (h : Lx w0 b s rest wd acc its W)
    (hbl : Below w0.heap.size w0 W') (hk : ∀ r, r < W.heap.size → r ≠ b → W'.heap[r]? = W.heap[r]?)
    (hx : ∀ (q : List UInt8) (st : Value) (z1 z2 : Int) (vr vi : Value), s = q ++ rest → LSt st → W.heap[b]? = some (.cells #[.string (txt s), st, .int .i64 q.length, .int .i64 z1, .int .i64 wd, .int .i64 z2, vr, vi] 133 (0, 0)) →
      W'.ownsRow w0.heap.size 21 1 vr acc.length (cells acc) → W'.ownsRow w0.heap.size 138 3 vi its.length (its.flatMap liCells) →
      ∃ (q2 : List UInt8) (st2 : Value) (y1 y2 : Int) (vr2 vi2 : Value), s = q2 ++ rest2 ∧ LSt st2 ∧
        W'.heap[b]? = some (.cells #[.string (txt s), st2, .int .i64 q2.length, .int .i64 y1, .int .i64 wd2, .int .i64 y2, vr2, vi2] 133 (0, 0)) ∧
        W'.ownsRow w0.heap.size 21 1 vr2 acc2.length (cells acc2) ∧ W'.ownsRow w0.heap.size 138 3 vi2 its2.length (its2.flatMap liCells)) :
    Lx w0 b s rest2 wd2 acc2 its2 W' := by
  obtain ⟨h1, h2, h3, q, st, z1, z2, vr, vi, hq, hst, ho, hr, hi⟩ := h
  have k1 : W'.ownsRow w0.heap.size 21 1 vr acc.length (cells acc) := owns_keep hr fun g hg => hk g (hr.lt g hg).2 (fun e => own_ne_type hr ho (by decide) (by rw [hg, e]))
  have k2 : W'.ownsRow w0.heap.size 138 3 vi its.length (its.flatMap liCells) := owns_keep hi fun g hg => hk g (hi.lt g hg).2 (fun e => own_ne_type hi ho (by decide) (by rw [hg, e]))
  exact ⟨h1, hbl, h3, hx q st z1 z2 vr vi hq hst ho k1 k2⟩
theorem Lx.drewN {w0 : World} {b : Nat} {s rest : List UInt8} {wd : Nat} {acc : List Nat} {its : List LI} {W : World} (h : Lx w0 b s rest wd acc its W) (n : Nat) : Lx w0 b s rest wd acc its (W.drewN n) := by
  obtain ⟨h1, h2, h3, h4⟩ := h
  exact ⟨h1, ⟨h2.os, h2.tape, h2.output, h2.size, h2.block⟩, h3, h4⟩
theorem Lx.drew {w0 : World} {b : Nat} {s rest : List UInt8} {wd : Nat} {acc : List Nat} {its : List LI} {W : World} (h : Lx w0 b s rest wd acc its W) : Lx w0 b s rest wd acc its W.drew := by
  obtain ⟨h1, h2, h3, h4⟩ := h
  exact ⟨h1, h2.drew, h3, h4⟩
theorem Lx.set4 {w0 : World} {b : Nat} {s rest : List UInt8} {wd : Nat} {acc : List Nat} {its : List LI} {W : World} (h : Lx w0 b s rest wd acc its W) (x : Nat) : Lx w0 b s rest x acc its (W.setCell ⟨b, 4, none⟩ (.int .i64 x)) := by
  refine h.set (h.2.1.setCell (p := ⟨b, 4, none⟩) h.1 _) (fun r _ hr => Below.heap_setCell _ _ _ _ hr) fun q st z1 z2 vr vi hq hst ho k1 k2 => ⟨q, st, z1, z2, vr, vi, hq, hst, ?_, k1, k2⟩
  simp [World.setCell, Array.getElem?_modify, ho]
theorem Lx.set2 {w0 : World} {b : Nat} {s rest : List UInt8} {wd : Nat} {acc : List Nat} {its : List LI} {W : World} (h : Lx w0 b s rest wd acc its W) (q2 rest2 : List UInt8) (hs : s = q2 ++ rest2) (x : Int) (hx : x = q2.length) : Lx w0 b s rest2 wd acc its (W.setCell ⟨b, 2, none⟩ (.int .i64 x)) := by
  refine h.set (h.2.1.setCell (p := ⟨b, 2, none⟩) h.1 _) (fun r _ hr => Below.heap_setCell _ _ _ _ hr) fun _ st z1 z2 vr vi _ hst ho k1 k2 => ⟨q2, st, z1, z2, vr, vi, hs, hst, ?_, k1, k2⟩
  simp [World.setCell, Array.getElem?_modify, ho, hx]
theorem Lx.set3 {w0 : World} {b : Nat} {s rest : List UInt8} {wd : Nat} {acc : List Nat} {its : List LI} {W : World} (h : Lx w0 b s rest wd acc its W) (x : Int) : Lx w0 b s rest wd acc its (W.setCell ⟨b, 3, none⟩ (.int .i64 x)) := by
  refine h.set (h.2.1.setCell (p := ⟨b, 3, none⟩) h.1 _) (fun r _ hr => Below.heap_setCell _ _ _ _ hr) fun q st _ z2 vr vi hq hst ho k1 k2 => ⟨q, st, x, z2, vr, vi, hq, hst, ?_, k1, k2⟩
  simp [World.setCell, Array.getElem?_modify, ho]
theorem Lx.set1 {w0 : World} {b : Nat} {s rest : List UInt8} {wd : Nat} {acc : List Nat} {its : List LI} {W : World} (h : Lx w0 b s rest wd acc its W) (st2 : Value) (hst2 : LSt st2) : Lx w0 b s rest wd acc its (W.setCell ⟨b, 1, none⟩ st2) := by
  refine h.set (h.2.1.setCell (p := ⟨b, 1, none⟩) h.1 _) (fun r _ hr => Below.heap_setCell _ _ _ _ hr) fun q _ z1 z2 vr vi hq _ ho k1 k2 => ⟨q, st2, z1, z2, vr, vi, hq, hst2, ?_, k1, k2⟩
  simp [World.setCell, Array.getElem?_modify, ho]
set_option linter.unusedVariables false in
theorem Lx.vals {w0 : World} {b : Nat} {s rest : List UInt8} {wd : Nat} {acc : List Nat} {its : List LI} {W : World} (h : Lx w0 b s rest wd acc its W) :
    ∃ (q : List UInt8) (st : Value) (z1 z2 : Int) (vr vi : Value), s = q ++ rest ∧ LSt st ∧ W.cell? ⟨b, 0, none⟩ = some (.string (txt s)) ∧ W.cell? ⟨b, 1, none⟩ = some st ∧ W.cell? ⟨b, 2, none⟩ = some (.int .i64 q.length) ∧ W.cell? ⟨b, 3, none⟩ = some (.int .i64 z1) ∧
      W.cell? ⟨b, 4, none⟩ = some (.int .i64 wd) ∧ W.cell? ⟨b, 6, none⟩ = some vr ∧ W.cell? ⟨b, 7, none⟩ = some vi ∧ (∀ i, W.frozen? ⟨b, i, none⟩ = false) ∧
      W.ownsRow w0.heap.size 21 1 vr acc.length (cells acc) ∧ W.ownsRow w0.heap.size 138 3 vi its.length (its.flatMap liCells) := by
  obtain ⟨_, _, _, q, st, z1, z2, vr, vi, hq, hst, ho, hr, hi⟩ := h
  exact ⟨q, st, z1, z2, vr, vi, hq, hst, by simp [World.cell?, ho], by simp [World.cell?, ho], by simp [World.cell?, ho], by simp [World.cell?, ho], by simp [World.cell?, ho], by simp [World.cell?, ho], by simp [World.cell?, ho], fun i => by simp [World.frozen?, ho], hr, hi⟩
/-- Nothing that was there has turned, but cells 2 and 4 of block b. -/
def Fr (b : Nat) (w w' : World) : Prop := w.heap.size ≤ w'.heap.size ∧ (∀ r, r < w.heap.size → r ≠ b → w'.heap[r]? = w.heap[r]?) ∧ ∀ i, i ≠ 2 → i ≠ 4 → w'.cell? ⟨b, i, none⟩ = w.cell? ⟨b, i, none⟩
theorem Fr.refl (b : Nat) (w : World) : Fr b w w := ⟨Nat.le_refl _, fun _ _ _ => rfl, fun _ _ _ => rfl⟩
theorem Fr.trans {b : Nat} {w w1 w2 : World} (h : Fr b w w1) (h2 : Fr b w1 w2) : Fr b w w2 := ⟨Nat.le_trans h.1 h2.1, fun r hr hb => (h2.2.1 r (by have := h.1; omega) hb).trans (h.2.1 r hr hb), fun i h2' h4 => (h2.2.2 i h2' h4).trans (h.2.2 i h2' h4)⟩
theorem Fr.below {b : Nat} {w w' : World} (h : Below w.heap.size w w') (hb : b < w.heap.size) : Fr b w w' := ⟨h.size, fun r hr _ => h.block r hr, fun i _ _ => h.cell (p := ⟨b, i, none⟩) hb⟩
theorem Fr.set {b : Nat} {w w' : World} (h : Fr b w w') (i : Nat) (v : Value) (hi : i = 2 ∨ i = 4) : Fr b w (w'.setCell ⟨b, i, none⟩ v) :=
  ⟨by simpa using h.1, fun r hr hb => (Below.heap_setCell _ _ _ _ hb).trans (h.2.1 r hr hb), fun j h2 h4 => (World.cell?_setCell_other _ _ _ _ (by intro e; cases e; omega)).trans (h.2.2 j h2 h4)⟩
theorem Fr.drewN (b : Nat) (w : World) (n : Nat) : Fr b w (w.drewN n) := ⟨Nat.le_refl _, fun _ _ _ => rfl, fun _ _ _ => rfl⟩
theorem Fr.drew {b : Nat} {w w' : World} (h : Fr b w w') : Fr b w w'.drew := h
set_option maxHeartbeats 1600000 in
set_option maxRecDepth 100000 in
theorem next_end (w0 : World) (b : Nat) (s : List UInt8) (wd : Nat) (acc : List Nat) (its : List LI) (w : World) (h : Lx w0 b s [] wd acc its w) :
    Calls Tryz.prog 114 #[.pointer (some ⟨b, 0, none⟩)] w fun e w' => e = .returned (.int .i32 (-1)) ∧ Lx w0 b s [] 0 acc its w' ∧ Fr b w w' := by
  have HL := Lib.hid h
  obtain ⟨q, st, z1, z2, vr, vi, hq, _, c0, _, c2, _, c4, _, _, f, _, _⟩ := h.vals
  rw [List.append_nil] at hq
  subst hq
  have f4 := f 4
  have hts := txt_size s
  clear h f
  go_enter Tryz.func114, Tryz.ntmps114
  go_upto_region 1 with fail
  go_quiet (fail)
  go_wp2
  go_ret
  exact ⟨rfl, (HL.out.drewN _).set4 0, (Fr.drewN b w _).set 4 _ (.inr rfl)⟩
set_option maxHeartbeats 1600000 in
set_option maxRecDepth 100000 in
theorem backup_any (w0 : World) (b : Nat) (s a rest q0 : List UInt8) (acc : List Nat) (its : List LI) (w : World) (h : Lx w0 b s rest a.length acc its w) (hq : s = q0 ++ (a ++ rest)) :
    Calls Tryz.prog 122 #[.pointer (some ⟨b, 0, none⟩)] w fun e w' => e = .returned (.tuple #[]) ∧ Lx w0 b s (a ++ rest) a.length acc its w' := by
  have HL := Lib.hid h
  obtain ⟨h1, h2⟩ := h.len
  obtain ⟨q, st, z1, z2, vr, vi, hq2, _, c0, _, c2, _, c4, _, _, f, _, _⟩ := h.vals
  obtain rfl : q = q0 ++ a := List.append_cancel_right (hq2.symm.trans (by rw [hq, List.append_assoc]))
  have f2 := f 2
  have hql : q0.length + a.length ≤ 100000 := by
    have := h2
    rw [hq, List.length_append, List.length_append] at this
    omega
  rw [List.length_append] at c2
  have HQ := Lib.hid hq
  clear h f hq hq2
  go_enter Tryz.func122, Tryz.ntmps122
  go_still_tail 11, (by kernel_rfl)
  change wpList _ _ _ _ _ w.drew
  have HL4 : Hid (Lx w0 b s rest a.length acc its w.drew) := HL.out.drew
  have c2' : w.drew.cell? ⟨b, 2, none⟩ = some (.int .i64 ((q0.length + a.length : Nat) : Int)) := c2
  have f2' : w.drew.frozen? ⟨b, 2, none⟩ = false := f2
  clear c0 c2 c4 f2 HL
  generalize w.drew = w4 at *
  go_wp2
  go_end0
  exact ⟨rfl, HL4.out.set2 q0 (a ++ rest) HQ.out _ (by simp)⟩
set_option maxHeartbeats 1600000 in
theorem ignore_any (w0 : World) (b : Nat) (s rest : List UInt8) (wd : Nat) (acc : List Nat) (its : List LI) (w : World) (h : Lx w0 b s rest wd acc its w) :
    Calls Tryz.prog 118 #[.pointer (some ⟨b, 0, none⟩)] w fun e w' => e = .returned (.tuple #[]) ∧ Lx w0 b s rest wd acc its w' := by
  have HL := Lib.hid h
  obtain ⟨q, st, z1, z2, vr, vi, hq2, _, c0, _, c2, _, c4, _, _, f, _, _⟩ := h.vals
  have f3 := f 3
  clear h f hq2
  go_enter Tryz.func118, Tryz.ntmps118
  go_wp2
  go_end0
  exact ⟨rfl, HL.out.set3 _⟩
end Go.Proofs.YtdfhidnhkeapbaaGreatDoor
