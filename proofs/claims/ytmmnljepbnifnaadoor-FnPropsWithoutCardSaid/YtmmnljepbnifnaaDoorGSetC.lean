/- properties.SetComments at a key that is new: the map of comments. -/
import Derived.Test.YtmmnljepbnifnaaDoorGObj
namespace Go.Proofs.YtmmnljepbnifnaaDoor
open Go.RowKit U8
open Go.Lib hiding intOf

/-- Block m is a map whose keys are texts among these. -/
def IsC (m : Nat) (ks : List (List UInt8)) (W : World) : Prop := ∃ es clock, W.heap[m]? = some (.map es clock) ∧ (∀ x ∈ es.toList, ∃ k ∈ ks, x.key = Value.string (txt k))
theorem IsC.below {m : Nat} {ks : List (List UInt8)} {w w' : World} (h : IsC m ks w) (hb : Below w.heap.size w w') : IsC m ks w' := by
  obtain ⟨es, c, hm, he⟩ := h
  exact ⟨es, c, (hb.block m (Array.getElem?_eq_some_iff.1 hm).1).trans hm, he⟩
theorem IsC.of {m : Nat} {ks : List (List UInt8)} {w w' : World} (h : IsC m ks w) (hb : w'.heap[m]? = w.heap[m]?) : IsC m ks w' := by
  obtain ⟨es, c, hm, he⟩ := h
  exact ⟨es, c, hb.trans hm, he⟩
theorem IsC.more {m : Nat} {ks : List (List UInt8)} {w : World} (h : IsC m ks w) (k : List UInt8) : IsC m (ks ++ [k]) w := by
  obtain ⟨es, c, hm, he⟩ := h
  exact ⟨es, c, hm, fun x hx => by obtain ⟨y, hy, e⟩ := he x hx; exact ⟨y, by simp [hy], e⟩⟩
theorem IsC.none {m : Nat} {w : World} (h : IsC m [] w) : ∃ clock, w.heap[m]? = some (.map #[] clock) := by
  obtain ⟨es, c, hm, he⟩ := h
  refine ⟨c, ?_⟩
  have : es = #[] := by
    obtain ⟨l⟩ := es
    cases l with
    | nil => rfl
    | cons x l => obtain ⟨k, hk, _⟩ := he x (by simp); cases hk
  rw [hm, this]
theorem put_c {P : Program} {w : World} (mty kt et : TypeId) (m : Nat) (ks : List (List UInt8)) (s : List UInt8) (v : Value) (B : Nat) (hB : B ≤ m) (hm : P.underlying mty = some (.map kt et)) (hk : P.underlying kt = some .string) (h : IsC m ks w) (hs : ∀ k ∈ ks, k ≠ s) :
    ∃ w', (Instr.mapUpdate mty (.map (some m)) (.string (txt s)) v).run P w = .ok () w' ∧ IsC m (ks ++ [s]) w' ∧ (∀ r, r ≠ m → w'.heap[r]? = w.heap[r]?) ∧ w'.heap.size = w.heap.size ∧ Below B w w' := by
  obtain ⟨es, c, hb, he⟩ := h
  have hf : Instr.findNow .string (.string (txt s)) es.toList 0 = some none := by
    rcases MapKept.findNow_spec (d := .string) (k := .string (txt s)) (by simp [MapKept.IsKey]) es.toList 0 (fun x hx => by
      obtain ⟨k, _, e⟩ := he x hx
      rw [e]; simp [MapKept.IsKey]) with h1 | ⟨j, e, h1, h2, h3⟩
    · exact h1.1
    · exfalso
      obtain ⟨k, hk, ek⟩ := he e (List.mem_of_getElem? h2)
      rw [h3] at ek
      exact hs k hk (txt_inj (by simpa using ek.symm))
  have hc : (Instr.checkKey false 10000 kt (.string (txt s))).run P w = .ok () w := MapKept.run_checkKey (k := .string (txt s)) hk (by simp [MapKept.IsKey]) false 9999
  have hS := MapKept.heap_set (o' := .map (es.push { key := .string (txt s), val := v, born := c }) (c + 1)) hb
  refine ⟨{ w with heap := w.heap.setIfInBounds m (.map (es.push { key := .string (txt s), val := v, born := c }) (c + 1)) }, ?_, ⟨_, _, hS.1, ?_⟩, hS.2, by simp, below_set (Below.refl B w) m _ hB⟩
  · simp [Instr.mapUpdate, run_underlying hm, MapKept.run_getObj_map hb, hc, MapKept.run_findKey hk hf, MapKept.run_setObj_map _ hb, Result.andThen]
  · intro x hx
    rw [Array.toList_push, List.mem_append] at hx
    rcases hx with hx | hx
    · obtain ⟨k, hk, e⟩ := he x hx; exact ⟨k, by simp [hk], e⟩
    · simp at hx; subst hx; exact ⟨s, by simp, rfl⟩
theorem eql_some (a : Addr) (n c : Nat) (w : World) : (binOp .eql 25 (.slice (some a) n c) (.slice none 0 0)).run Tryd.prog w = .ok (.bool false) w := by kernel_rfl
set_option maxHeartbeats 1600000 in
set_option maxRecDepth 100000 in
theorem setc_any (B b cb : Nat) (ks : List (List UInt8)) (s : List UInt8) (g n cap : Nat) (w : World) (h4 : w.cell? ⟨b, 4, none⟩ = some (.map (some cb))) (hB : B ≤ cb) (h : IsC cb ks w) (hs : ∀ k ∈ ks, k ≠ s) :
    Calls Tryd.prog 26 #[.pointer (some ⟨b, 0, none⟩), .string (txt s), .slice (some ⟨g, 0, none⟩) n cap] w
      fun e w' => e = .returned (.tuple #[]) ∧ IsC cb (ks ++ [s]) w' ∧ (∀ r, r ≠ cb → w'.heap[r]? = w.heap[r]?) ∧ w'.heap.size = w.heap.size ∧ Below B w w' := by
  obtain ⟨w2, hmu, h1, h2, h3, h5⟩ := put_c (P := Tryd.prog) 46 9 25 cb ks s (.slice (some ⟨g, 0, none⟩) n cap) B hB Tryd.underlying46 Tryd.underlying9 h hs
  have H1 := Lib.hid h1
  have H2 := Lib.hid h2
  have H3 := Lib.hid h3
  have H5 := Lib.hid h5
  have hne := eql_some ⟨g, 0, none⟩ n cap w
  clear h hs h1 h2 h3 h5
  go_enter Tryd.func26, Tryd.ntmps26
  go_wp2
  go_end0
  exact ⟨rfl, H1.out, H2.out, H3.out, H5.out⟩
end Go.Proofs.YtmmnljepbnifnaaDoor
