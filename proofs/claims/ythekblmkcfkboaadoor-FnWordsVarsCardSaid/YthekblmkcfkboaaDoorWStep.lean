/- What each append and store of Parse leaves of what it keeps. -/
import Derived.Test.YthekblmkcfkboaaDoorWParse
namespace Go.Proofs.YthekblmkcfkboaaDoor
open Go.RowKit U8
open Go.Lib hiding intOf

theorem own_app {W : World} {B : Nat} {v : Value} {b e : List UInt8} (h : W.ownsRow B 5 1 v (b.length + (txt e).size) (byteCells b ++ strCells (txt e))) : W.ownsRow B 5 1 v (b ++ e).length (byteCells (b ++ e)) := by
  rw [List.length_append, byteCells_app]
  rw [txt_size, strCells_txt] at h
  exact h
theorem own_one {W : World} {B : Nat} {v : Value} {b : List UInt8} (x : UInt8) (u : Int) (hu : u = (x.toNat : Int)) (h : W.ownsRow B 5 1 v (b.length + 1) (byteCells b ++ [Value.int .u8 u])) : W.ownsRow B 5 1 v (b ++ [x]).length (byteCells (b ++ [x])) := by
  subst hu
  rw [List.length_append, byteCells_app]
  exact h
theorem owns_form {B : Nat} {e : TypeId} {k : Nat} {v : Value} {n : Nat} {xs : List Value} {w : World} (h : w.ownsRow B e k v n xs) : ∃ ao m cap, v = .slice ao m cap := by
  obtain ⟨ao, cap, e⟩ := owns_slice h
  exact ⟨ao, n, cap, e⟩
theorem enc_nine : Utf8.encode 9 = txt (enc1 9) := encode_enc1 9 (by unfold Sc; omega)
theorem enc_ten : Utf8.encode 10 = txt (enc1 10) := encode_enc1 10 (by unfold Sc; omega)
theorem own_cell {W : World} {B g n cap k : Nat} {b : UInt8} {l : List UInt8} (h : W.ownsRow B 5 1 (.slice (some ⟨g, 0, none⟩) n cap) n (byteCells l)) (hx : l[k]? = some b) : W.cell? ⟨g, k, none⟩ = some (.int .u8 b.toNat) := by
  have h1 : (byteCells l)[k]? = some (.int .u8 b.toNat) := by rw [byteCells_get, hx]; rfl
  have h2 := World.ownsRow.cells h rfl k _ h1
  rw [← h2]
  congr 1
  unfold Addr.add; split <;> simp_all
theorem own_zero {W : World} {B k n cap : Nat} {e : TypeId} {ao : Option Addr} {xs : List Value} (h : W.ownsRow B e k (.slice ao n cap) n xs) : W.ownsRow B e k (.slice ao 0 cap) 0 [] := by
  rcases h.2 with ⟨e1, _⟩ | ⟨g', cap', cur, e1, h1, h2, h3, h4, h5, h6⟩
  · cases e1
    exact World.ownsRow_nil _ _ _ _
  · cases e1
    exact ⟨by simp, .inr ⟨g', cap, cur, rfl, h1, h2, by omega, h4, h5, by simp⟩⟩
theorem one_u8 (W : World) (x : Value) : ∀ (j : Nat) (u : Value), [x][j]? = some u → (W.alloc (.cells #[x] 5)).cell? ((⟨W.heap.size, 0, none⟩ : Addr).add j) = some u := by
  intro j u hj
  match j, hj with
  | 0, hj => simp at hj; subst hj; simp [Addr.add]
section
variable {w wr w2 : World} {A0 B0 G0 T0 S0 I0 pos : Nat} {T : ByteArray} {vb vk v' : Value} {args : List (List UInt8)} {buf bt : List UInt8} {got : Nat} {tq : Bool}
theorem PW.addBuf (k : PB w.heap.size A0 B0 G0 T0 S0) (h : PW w A0 B0 G0 T0 S0 I0 T pos vb vk args buf bt got tq wr) {e : List UInt8} (hg : wr.grownBy w2 vb.ownBlock)
    (hown : w2.ownsRow w.heap.size 5 1 v' (buf.length + (txt e).size) (byteCells buf ++ strCells (txt e))) (hmv : Moved wr vb v') :
    w2.cell? ⟨B0, 0, none⟩ = some vb ∧ w2.frozen? ⟨B0, 0, none⟩ = false ∧ B0 < w2.heap.size ∧ PW w A0 B0 G0 T0 S0 I0 T pos v' vk args (buf ++ e) bt got tq (w2.setCell ⟨B0, 0, none⟩ v') :=
  h.bufTo k (fun _ _ => rfl) h.bw (Nat.le_refl _) hg (own_app hown) hmv
theorem PW.addBuf1 (k : PB w.heap.size A0 B0 G0 T0 S0) (h : PW w A0 B0 G0 T0 S0 I0 T pos vb vk args buf bt got tq wr) (x : UInt8) (u : Int) (hu : u = (x.toNat : Int)) (hg : (wr.alloc (.cells #[.int .u8 u] 5)).grownBy w2 vb.ownBlock)
    (hown : w2.ownsRow w.heap.size 5 1 v' (buf.length + 1) (byteCells buf ++ [Value.int .u8 u])) (hmv : Moved (wr.alloc (.cells #[.int .u8 u] 5)) vb v') :
    w2.cell? ⟨B0, 0, none⟩ = some vb ∧ w2.frozen? ⟨B0, 0, none⟩ = false ∧ B0 < w2.heap.size ∧ PW w A0 B0 G0 T0 S0 I0 T pos v' vk args (buf ++ [x]) bt got tq (w2.setCell ⟨B0, 0, none⟩ v') :=
  h.bufTo k (fun y hy => alloc_old _ _ _ hy) (h.bw.alloc h.bw.size _) (by simp) hg (own_one x u hu hown) hmv
theorem PW.addBk (h : PW w A0 B0 G0 T0 S0 I0 T pos vb vk args buf bt got tq wr) {e : List UInt8} (hg : wr.grownBy w2 vk.ownBlock)
    (hown : w2.ownsRow w.heap.size 5 1 v' (bt.length + (txt e).size) (byteCells bt ++ strCells (txt e))) (hmv : Moved wr vk v') :
    PW w A0 B0 G0 T0 S0 I0 T pos vb v' args buf (bt ++ e) got tq w2 :=
  h.bkTo (fun _ _ => rfl) h.bw (Nat.le_refl _) hg (own_app hown) hmv
theorem PW.addBk1 (h : PW w A0 B0 G0 T0 S0 I0 T pos vb vk args buf bt got tq wr) (x : UInt8) (u : Int) (hu : u = (x.toNat : Int)) (hg : (wr.alloc (.cells #[.int .u8 u] 5)).grownBy w2 vk.ownBlock)
    (hown : w2.ownsRow w.heap.size 5 1 v' (bt.length + 1) (byteCells bt ++ [Value.int .u8 u])) (hmv : Moved (wr.alloc (.cells #[.int .u8 u] 5)) vk v') :
    PW w A0 B0 G0 T0 S0 I0 T pos vb v' args buf (bt ++ [x]) got tq w2 :=
  h.bkTo (fun y hy => alloc_old _ _ _ hy) (h.bw.alloc h.bw.size _) (by simp) hg (own_one x u hu hown) hmv
theorem PW.bkCut {ao : Option Addr} {n cap : Nat} (h : PW w A0 B0 G0 T0 S0 I0 T pos vb (.slice ao n cap) args buf bt got tq wr) (hn : n = bt.length) :
    PW w A0 B0 G0 T0 S0 I0 T pos vb (.slice ao 0 cap) args buf [] got tq wr := by
  subst hn
  exact ⟨h.g, h.t, h.z, h.b, h.br, h.a, own_zero h.kr, fun x h1 h2 => h.sep x h1 (by rw [← h2]; cases ao <;> rfl), h.bw, h.it, h.n, h.nb⟩
theorem PW.bkForm (h : PW w A0 B0 G0 T0 S0 I0 T pos vb vk args buf bt got tq wr) : (vk = .slice none 0 0 ∧ bt.length = 0) ∨ ∃ g cap, vk = .slice (some ⟨g, 0, none⟩) bt.length cap ∧ bt.length ≤ cap := by
  rcases h.kr.2 with ⟨e1, h0⟩ | ⟨g', cap', cur, e1, h1, h2, h3, _⟩
  · exact .inl ⟨e1, h0⟩
  · exact .inr ⟨g', cap', e1, h3⟩
theorem Ex.below {pp : Nat} {ex : List Nat} {w w2 : World} (h : Ex pp ex w) (hb : Below w.heap.size w w2) : Ex pp ex w2 := by
  obtain ⟨ao, cap, c3, hx⟩ := h
  refine ⟨ao, cap, (hb.cell (World.block_lt_of_cell? w _ c3)).trans c3, fun j x hj => ?_⟩
  obtain ⟨g, e, hc⟩ := hx j x hj
  exact ⟨g, e, (hb.cell (World.block_lt_of_cell? w _ hc)).trans hc⟩
end

end Go.Proofs.YthekblmkcfkboaaDoor
