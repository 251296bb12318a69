/- NewTranslator: two patterns become a translator. -/
import Derived.Test.YtbomlhhpokknaaaDoorTUpd
import Derived.BigQuiet
import Derived.Deep.QuietTactic
import Derived.Deep.Cut
import Derived.Deep.CutRange
import Derived.Deep.DeepCutAuto
namespace Go.Proofs.YtbomlhhpokknaaaDoor
open Go.RowKit U8
open Go.Lib hiding intOf

theorem tr_fin {B b : Nat} {T : Tr} {w : World} (h : TrAt B b T (.int .i32 0) (.bool false) (.bool false) (.bool false) w) (rv dl : Bool) (mr : Int) :
    (w.cell? ⟨b, 3, none⟩ = some (.int .i32 0) ∧ w.cell? ⟨b, 4, none⟩ = some (.bool false) ∧ w.cell? ⟨b, 5, none⟩ = some (.bool false) ∧ w.cell? ⟨b, 6, none⟩ = some (.bool false)) ∧ (w.frozen? ⟨b, 3, none⟩ = false ∧ w.frozen? ⟨b, 4, none⟩ = false ∧ w.frozen? ⟨b, 5, none⟩ = false ∧ w.frozen? ⟨b, 6, none⟩ = false) ∧
    TrAt B b T (.int .i32 (-1)) (.bool rv) (.bool dl) (.bool true) ((((w.setCell ⟨b, 4, none⟩ (.bool rv)).setCell ⟨b, 5, none⟩ (.bool dl)).setCell ⟨b, 3, none⟩ (.int .i32 (-1))).setCell ⟨b, 6, none⟩ (.bool true)) ∧
    TrAt B b T (.int .i32 mr) (.bool rv) (.bool dl) (.bool true) (((((w.setCell ⟨b, 4, none⟩ (.bool rv)).setCell ⟨b, 5, none⟩ (.bool dl)).setCell ⟨b, 3, none⟩ (.int .i32 (-1))).setCell ⟨b, 6, none⟩ (.bool true)).setCell ⟨b, 3, none⟩ (.int .i32 mr)) := by
  obtain ⟨q, m, v, h1, h2, h3, h4, h5⟩ := h
  refine ⟨⟨by simp [World.cell?, h1], by simp [World.cell?, h1], by simp [World.cell?, h1], by simp [World.cell?, h1]⟩, ⟨by simp [World.frozen?, h1], by simp [World.frozen?, h1], by simp [World.frozen?, h1], by simp [World.frozen?, h1]⟩, ?_, ?_⟩
  · have k1 := Kp.set h1 4 (.bool rv)
    have e1 := cells_set h1 4 (.bool rv)
    have k2 := Kp.set e1 5 (.bool dl)
    have e2 := cells_set e1 5 (.bool dl)
    have k3 := Kp.set e2 3 (.int .i32 (-1))
    have e3 := cells_set e2 3 (.int .i32 (-1))
    have k4 := Kp.set e3 6 (.bool true)
    have e4 := cells_set e3 6 (.bool true)
    have k := ((k1.trans k2).trans k3).trans k4
    exact ⟨q, m, v, e4, h2, h3.keep k (by decide), h4.keep k (by decide), h5.keep k (by decide) (by decide)⟩
  · have k1 := Kp.set h1 4 (.bool rv)
    have e1 := cells_set h1 4 (.bool rv)
    have k2 := Kp.set e1 5 (.bool dl)
    have e2 := cells_set e1 5 (.bool dl)
    have k3 := Kp.set e2 3 (.int .i32 (-1))
    have e3 := cells_set e2 3 (.int .i32 (-1))
    have k4 := Kp.set e3 6 (.bool true)
    have e4 := cells_set e3 6 (.bool true)
    have k5 := Kp.set e4 3 (.int .i32 mr)
    have e5 := cells_set e4 3 (.int .i32 mr)
    have k := (((k1.trans k2).trans k3).trans k4).trans k5
    exact ⟨q, m, v, e5, h2, h3.keep k (by decide), h4.keep k (by decide), h5.keep k (by decide) (by decide)⟩

def Tr.adds (T : Tr) : Nat := T.sing.length + T.rgs.length
theorem adds_rune (T : Tr) (f t : Int) : (T.addRune f t).adds = T.adds + 1 := by unfold Tr.adds; rw [addRune_sing, addRune_rgs]; simp; omega
theorem adds_range (T : Tr) (a b c d : Int) : (T.addRange a b c d).adds = T.adds + 1 := by unfold Tr.adds; rw [addRange_sing]; unfold Tr.addRange; rw [addR_rgs]; simp; omega
/-- What the loops keep. -/
structure St (B b be bs bt bx : Nat) (w : World) (T : Tr) (c : Cu) (v : Value) (wr : World) : Prop where
  tr : TrAt B b T (.int .i32 0) (.bool false) (.bool false) (.bool false) wr
  sg : SgAt B v T.sing wr
  cu : CuAt be bs bt bx c wr
  bw : Below w.heap.size w wr
  hB : B ≤ wr.heap.size
  ok : T.Ok
  co : c.Ok 10000
/-- The blocks differ, and lie behind all that was there. -/
structure Bks (B b be bs bt bx n : Nat) : Prop where
  d1 : be ≠ bs
  d2 : be ≠ bt
  d3 : be ≠ bx
  d4 : bs ≠ bt
  d5 : bs ≠ bx
  d6 : bt ≠ bx
  b1 : b ≠ be
  b2 : b ≠ bs
  b3 : b ≠ bt
  b4 : b ≠ bx
  l1 : be < B
  l2 : bs < B
  l3 : bt < B
  l4 : bx < B
  l5 : b < B
  g1 : n ≤ be
  g2 : n ≤ bs
  g3 : n ≤ bt
  g4 : n ≤ bx
  g5 : n ≤ b
section
variable {B b be bs bt bx : Nat} {w wr w2 : World} {T : Tr} {c : Cu} {v v' : Value}
theorem cu_chg (k : Bks B b be bs bt bx w.heap.size) (h : CuAt be bs bt bx c wr) (hc : Chg B b wr w2) : CuAt be bs bt bx c w2 :=
  ⟨by rw [hc.block _ k.l1 k.b1.symm]; exact h.en, by rw [hc.block _ k.l2 k.b2.symm]; exact h.sp, by rw [hc.block _ k.l3 k.b3.symm]; exact h.tx, by rw [hc.block _ k.l4 k.b4.symm]; exact h.st⟩
theorem St.chg (k : Bks B b be bs bt bx w.heap.size) (h : St B b be bs bt bx w T c v wr) {T2 : Tr} (r : TrAt B b T2 (.int .i32 0) (.bool false) (.bool false) (.bool false) w2) (s : SgAt B v' T2.sing w2) (hc : Chg B b wr w2) (ho : T2.Ok) : St B b be bs bt bx w T2 c v' w2 :=
  ⟨r, s, cu_chg k h.cu hc, h.bw.trans (Below.of_chg hc (by have := k.l1; have := k.g1; omega) k.g5), Nat.le_trans h.hB hc.size, ho, h.co⟩
/-- All blocks from B on, and b, stay. -/
theorem tr_kb {mr rv dl hp : Value} (h : TrAt B b T mr rv dl hp wr) (hk : ∀ k, k < wr.heap.size → (B ≤ k ∨ k = b) → w2.heap[k]? = wr.heap[k]?) : TrAt B b T mr rv dl hp w2 := by
  have g : ∀ (k : Nat) (o : Obj), wr.heap[k]? = some o → (B ≤ k ∨ k = b) → w2.heap[k]? = some o := fun k o ho hb => by rw [hk k (Array.getElem?_eq_some_iff.1 ho).1 hb]; exact ho
  obtain ⟨q, m, v, h1, h2, h3, h4, gs, h5, h6⟩ := h
  refine ⟨q, m, v, g b _ h1 (.inr rfl), h2, ?_, ?_, gs, ?_, fun i x R a c => ⟨(h6 i x R a c).1, g x _ (h6 i x R a c).2 (.inl (h6 i x R a c).1)⟩⟩
  · cases hd : T.dict with
    | none => rw [hd] at h3; exact h3
    | some L =>
      rw [hd] at h3
      obtain ⟨d, C, k1, k2, k3, k4⟩ := h3
      exact ⟨d, C, k1, k2, g d _ k3 (.inl k2), k4⟩
  · cases hd : T.rmap with
    | none => rw [hd] at h4; exact h4
    | some L =>
      rw [hd] at h4
      obtain ⟨k, D, n', k1, k2, k3, ⟨es, cl, hb, r⟩, k5⟩ := h4
      exact ⟨k, D, n', k1, k2, k3, ⟨es, cl, g k _ hb (.inl k2), r⟩, k5⟩
  · refine ⟨h5.1, ?_⟩
    rcases h5.2 with h | ⟨x, cap, cur, hv, hg, hh, r⟩
    · exact .inl h
    · exact .inr ⟨x, cap, cur, hv, hg, g x _ hh (.inl hg), r⟩
theorem sg_kb {l : List Int} (h : SgAt B v l wr) (hk : ∀ k, k < wr.heap.size → (B ≤ k ∨ k = b) → w2.heap[k]? = wr.heap[k]?) : SgAt B v l w2 := by
  refine ⟨h.1, ?_⟩
  rcases h.2 with h | ⟨x, cap, cur, hv, hg, hh, r⟩
  · exact .inl h
  · exact .inr ⟨x, cap, cur, hv, hg, by rw [hk x (Array.getElem?_eq_some_iff.1 hh).1 (.inl hg)]; exact hh, r⟩
theorem St.cap (k : Bks B b be bs bt bx w.heap.size) (h : St B b be bs bt bx w T c v wr) {c2 : Cu} (r : CuAt be bs bt bx c2 w2) (hc : Cap be bs bt bx wr w2) (ho : c2.Ok 10000) : St B b be bs bt bx w T c2 v w2 := by
  have hk : ∀ i, i < wr.heap.size → (B ≤ i ∨ i = b) → w2.heap[i]? = wr.heap[i]? := fun i hi hb => by
    have := k.l1; have := k.l2; have := k.l3; have := k.l4; have := k.b1; have := k.b2; have := k.b3; have := k.b4
    exact hc.block i hi (by omega) (by omega) (by omega) (by omega)
  refine ⟨tr_kb h.tr hk, sg_kb h.sg hk, r, h.bw.trans ⟨hc.os, hc.tape, hc.output, hc.size, fun i hi => ?_⟩, Nat.le_trans h.hB hc.size, h.ok, ho⟩
  have := k.g1; have := k.g2; have := k.g3; have := k.g4; have := h.bw.size
  exact hc.block i (by omega) (by omega) (by omega) (by omega) (by omega)
theorem St.upd (k : Bks B b be bs bt bx w.heap.size) (h : St B b be bs bt bx w T c v wr) (r : CuAt be bs bt bx c.upd w2) (hc : Cap be bs bt bx wr w2) : St B b be bs bt bx w T c.upd v w2 := h.cap k r hc (Cu.upd_ok h.co)
theorem cu_st (k : Bks B b be bs bt bx w.heap.size) (h : CuAt be bs bt bx c wr) (x : Int) : CuAt be bs bt bx { c with st := x } (wr.setCell ⟨bx, 0, none⟩ (.int .i32 x)) :=
  ⟨by rw [Below.heap_setCell _ _ _ _ k.d3]; exact h.en, by rw [Below.heap_setCell _ _ _ _ k.d5]; exact h.sp, by rw [Below.heap_setCell _ _ _ _ k.d6]; exact h.tx, one_setCell h.st⟩
theorem St.setst (k : Bks B b be bs bt bx w.heap.size) (h : St B b be bs bt bx w T c v wr) (x : Int) (hx : ({ c with st := x } : Cu).Ok 10000) : St B b be bs bt bx w T { c with st := x } v (wr.setCell ⟨bx, 0, none⟩ (.int .i32 x)) :=
  h.cap k (cu_st k h.cu x) ((Cap.refl _ _ _ _ _).set (.inr (.inr (.inr rfl))) _) hx
theorem St.below (h : St B b be bs bt bx w T c v wr) (hb : Below wr.heap.size wr w2) : St B b be bs bt bx w T c v w2 :=
  ⟨h.tr.below hb, h.sg.below hb, h.cu.below hb, h.bw.trans (hb.mono h.bw.size), Nat.le_trans h.hB hb.size, h.ok, h.co⟩
theorem St.rune (k : Bks B b be bs bt bx w.heap.size) (h : St B b be bs bt bx w T c v wr) (f : Int) (hf : Cp f) (ha : T.adds ≤ 100000) :
    Calls Tryd.prog 42 #[.pointer (some ⟨b, 0, none⟩), .int .i32 f, .int .i32 c.st, v] wr fun e w' => ∃ v', e = .returned v' ∧ St B b be bs bt bx w (T.addRune f c.st) c v' w' := by
  refine (add_rune B b T f c.st v _ _ _ _ wr hf h.co.st h.hB h.tr h.sg (by unfold Tr.adds at ha; omega)).mono ?_
  rintro e w' ⟨v', rfl, h1, h2, h3⟩
  exact ⟨v', rfl, h.chg k h1 h2 h3 (Tr.addRune_ok h.ok hf h.co.st)⟩
theorem St.range (k : Bks B b be bs bt bx w.heap.size) (h : St B b be bs bt bx w T c v wr) (lo hi tlo thi : Int) (h1 : Cp lo) (h2 : Cp hi) (h3 : Cp tlo) (h4 : Cp thi) (ha : T.adds ≤ 100000) :
    Calls Tryd.prog 43 #[.pointer (some ⟨b, 0, none⟩), .int .i32 lo, .int .i32 hi, .int .i32 tlo, .int .i32 thi, v] wr fun e w' => e = .returned (.tuple #[.int .i32 hi, .int .i32 thi]) ∧ St B b be bs bt bx w (T.addRange lo hi tlo thi) c v w' := by
  refine (add_range B b T lo hi tlo thi v _ _ _ _ wr h.hB h.ok h.tr h.sg (by unfold Tr.adds at ha; omega) (by unfold Tr.adds at ha; omega)).mono ?_
  rintro e w' ⟨rfl, q1, q2, q3⟩
  exact ⟨rfl, h.chg k q1 q2 q3 (Tr.addRange_ok h.ok h1 h2 h3 h4)⟩
theorem St.step (k : Bks B b be bs bt bx w.heap.size) (h : St B b be bs bt bx w T c v wr) (hT : Tabs w) :
    Calls Tryd.prog 39 #[.pointer (some ⟨be, 0, none⟩), .pointer (some ⟨bs, 0, none⟩), .pointer (some ⟨bt, 0, none⟩), .pointer (some ⟨bx, 0, none⟩)] wr fun e w' => e = .returned (.tuple #[]) ∧ St B b be bs bt bx w T c.upd v w' := by
  refine (upd_any be bs bt bx c wr (h.co.mono (by omega)) h.cu k.d1 k.d2 k.d3 k.d4 k.d5 k.d6 (hT.below h.bw)).mono ?_
  rintro e w' ⟨rfl, h1, h2⟩
  exact ⟨rfl, h.upd k h1 h2⟩
end
/-- The translator that two patterns make lies at b. -/
def TxAt (B b : Nat) (X : Tx) (w : World) : Prop := TrAt B b X.T (.int .i32 X.mapped) (.bool X.rev) (.bool X.del) (.bool X.has) w ∧ X.T.Ok ∧ -1 ≤ X.mapped ∧ X.mapped ≤ 1114111
/-- What NewTranslator leaves. -/
def NewPost (w : World) (X : Tx) (e : Ending) (w' : World) : Prop := ∃ b B, e = .returned (.pointer (some ⟨b, 0, none⟩)) ∧ TxAt B b X w' ∧ Below w.heap.size w w'
theorem NewPost.of {w w' : World} {X : Tx} {e : Ending} {b B : Nat} (h1 : e = .returned (.pointer (some ⟨b, 0, none⟩))) (h2 : TxAt B b X w') (h3 : Below w.heap.size w w') : NewPost w X e w' := ⟨b, B, h1, h2, h3⟩
theorem mu_le {c : Cu} (h : c.Ok 10000) : c.mu ≤ 20001 := by have := h.len; unfold Cu.mu; split <;> omega

theorem init_st (w : World) (tx : List UInt8) (x y : Int) :
    CuAt (w.heap.size + 1 + 1 + 1) (w.heap.size + 1 + 1 + 1 + 1) w.heap.size (w.heap.size + 1 + 1) ⟨tx, x, y, 0⟩ (((((w.alloc (.cells #[.string (txt tx)] 9)).alloc (.cells #[.pointer none, .map none, .slice none 0 0, .int .i32 0, .bool false, .bool false, .bool false] 61)).alloc (.cells #[.int .i32 x] 21)).alloc (.cells #[.int .i32 y] 21)).alloc (.cells #[.int .i32 0] 21)) ∧
    TrAt (w.heap.size + 5) (w.heap.size + 1) Tr.nil (.int .i32 0) (.bool false) (.bool false) (.bool false) (((((w.alloc (.cells #[.string (txt tx)] 9)).alloc (.cells #[.pointer none, .map none, .slice none 0 0, .int .i32 0, .bool false, .bool false, .bool false] 61)).alloc (.cells #[.int .i32 x] 21)).alloc (.cells #[.int .i32 y] 21)).alloc (.cells #[.int .i32 0] 21)) ∧
    Below w.heap.size w (((((w.alloc (.cells #[.string (txt tx)] 9)).alloc (.cells #[.pointer none, .map none, .slice none 0 0, .int .i32 0, .bool false, .bool false, .bool false] 61)).alloc (.cells #[.int .i32 x] 21)).alloc (.cells #[.int .i32 y] 21)).alloc (.cells #[.int .i32 0] 21)) ∧
    (((((w.alloc (.cells #[.string (txt tx)] 9)).alloc (.cells #[.pointer none, .map none, .slice none 0 0, .int .i32 0, .bool false, .bool false, .bool false] 61)).alloc (.cells #[.int .i32 x] 21)).alloc (.cells #[.int .i32 y] 21)).alloc (.cells #[.int .i32 0] 21)).heap.size = w.heap.size + 5 := by
  have old : ∀ (W : World) (o : Obj) (k : Nat), k < W.heap.size → (W.alloc o).heap[k]? = W.heap[k]? := fun W o k h => by
    show (W.heap.push o)[k]? = W.heap[k]?
    rw [Array.getElem?_push, if_neg (by omega)]
  have new : ∀ (W : World) (o : Obj) (k : Nat), k = W.heap.size → (W.alloc o).heap[k]? = some o := fun W o k h => by
    subst h
    exact heap_alloc_new W o
  refine ⟨⟨?_, ?_, ?_, ?_⟩, ⟨.pointer none, .map none, .slice none 0 0, ?_, by omega, rfl, rfl, [], World.ownsRow_nil _ _ _ _, fun i g R h => by simp at h⟩, ?_, by simp⟩
  · rw [old _ _ _ (by simp), new _ _ _ (by simp)]
  · rw [new _ _ _ (by simp)]
  · rw [old _ _ _ (by simp <;> omega), old _ _ _ (by simp <;> omega), old _ _ _ (by simp <;> omega), old _ _ _ (by simp), new _ _ _ rfl]
  · rw [old _ _ _ (by simp <;> omega), old _ _ _ (by simp), new _ _ _ (by simp)]
  · rw [old _ _ _ (by simp <;> omega), old _ _ _ (by simp <;> omega), old _ _ _ (by simp), new _ _ _ (by simp)]
  · have e := (Below.refl w.heap.size w).alloc (Nat.le_refl _)
    exact ((((e _).alloc (by simp) _).alloc (by simp <;> omega) _).alloc (by simp <;> omega) _).alloc (by simp <;> omega) _
theorem init_bks (n : Nat) : Bks (n + 5) (n + 1) (n + 1 + 1 + 1) (n + 1 + 1 + 1 + 1) n (n + 1 + 1) n := by
  refine ⟨?_, ?_, ?_, ?_, ?_, ?_, ?_, ?_, ?_, ?_, ?_, ?_, ?_, ?_, ?_, ?_, ?_, ?_, ?_, ?_⟩ <;> omega

theorem outer_one (f : Nat) (T : Tr) (c : Cu) (fe : Int) (l : List UInt8) (Q : List UInt8 × Int × Int × Int) (hl : l ≠ []) (hQ : nrr l.length fe false false l = Q) (h : Q.2.2.2 = 0) : outer (f + 1) T c fe l = outer f (T.addRune Q.2.1 c.st) c.upd Q.2.2.1 Q.1 := by
  rw [outer, if_neg hl, hQ]
  simp only [h, if_true]
theorem outer_rng (f : Nat) (T : Tr) (c : Cu) (fe : Int) (l : List UInt8) (Q : List UInt8 × Int × Int × Int) (I : Tr × Cu × Int) (hl : l ≠ []) (hQ : nrr l.length fe false false l = Q) (h : Q.2.2.2 ≠ 0) (hI : inner Q.2.2.1 Q.2.2.2 (c.mu + 1) T c Q.2.1 = I) :
    outer (f + 1) T c fe l = if I.2.2 = Q.2.2.1 then outer f I.1 I.2.1 (-1) Q.1 else outer f (I.1.addRange I.2.2 Q.2.2.1 I.2.1.st I.2.1.st) I.2.1 (-1) Q.1 := by
  rw [outer, if_neg hl, hQ]
  simp only [h, if_false, hI]
theorem inner_exit (e sp : Int) (f : Nat) (T : Tr) (c : Cu) (y : Int) (h : ¬ (c.en ≠ -1 ∧ y ≠ e)) : inner e sp (f + 1) T c y = (T, c, y) := by
  rw [inner, if_neg h]
theorem inner_a1 (e sp : Int) (f : Nat) (T : Tr) (c : Cu) (y : Int) (h : c.en ≠ -1) (h2 : y ≠ e) (h0 : c.sp = 0) (h1 : y + sp = e) : inner e sp (f + 1) T c y = inner e sp f ((T.addRune y c.st).addRune (y + sp) c.upd.st) c.upd.upd (y + sp) := by
  rw [inner, if_pos ⟨h, h2⟩, if_pos h0, if_pos h1]
theorem inner_a2 (e sp : Int) (f : Nat) (T : Tr) (c : Cu) (y : Int) (h : c.en ≠ -1) (h2 : y ≠ e) (h0 : c.sp = 0) (h1 : ¬ y + sp = e) : inner e sp (f + 1) T c y = inner e sp f (T.addRune y c.st) c.upd (y + sp) := by
  rw [inner, if_pos ⟨h, h2⟩, if_pos h0, if_neg h1]
theorem inner_b1 (e sp : Int) (f : Nat) (T : Tr) (c : Cu) (y : Int) (h : c.en ≠ -1) (h2 : y ≠ e) (h0 : c.sp ≠ 0) (hlt : (c.en - c.st) * c.sp < (e - y) * sp) (h1 : y + (c.en - c.st) * c.sp * sp + sp = e) :
    inner e sp (f + 1) T c y = inner e sp f ((T.addRange y (y + (c.en - c.st) * c.sp * sp) c.st c.en).addRune (y + (c.en - c.st) * c.sp * sp + sp) ({ c with st := c.en } : Cu).upd.st) ({ c with st := c.en } : Cu).upd.upd (y + (c.en - c.st) * c.sp * sp + sp) := by
  rw [inner, if_pos ⟨h, h2⟩, if_neg h0, if_pos hlt, if_pos h1]
theorem inner_b2 (e sp : Int) (f : Nat) (T : Tr) (c : Cu) (y : Int) (h : c.en ≠ -1) (h2 : y ≠ e) (h0 : c.sp ≠ 0) (hlt : (c.en - c.st) * c.sp < (e - y) * sp) (h1 : ¬ y + (c.en - c.st) * c.sp * sp + sp = e) :
    inner e sp (f + 1) T c y = inner e sp f (T.addRange y (y + (c.en - c.st) * c.sp * sp) c.st c.en) ({ c with st := c.en } : Cu).upd (y + (c.en - c.st) * c.sp * sp + sp) := by
  rw [inner, if_pos ⟨h, h2⟩, if_neg h0, if_pos hlt, if_neg h1]
theorem inner_c (e sp : Int) (f : Nat) (T : Tr) (c : Cu) (y : Int) (h : c.en ≠ -1) (h2 : y ≠ e) (h0 : c.sp ≠ 0) (hlt : ¬ (c.en - c.st) * c.sp < (e - y) * sp) :
    inner e sp (f + 1) T c y = (T.addRange y e c.st (c.st + (e - y) * sp * c.sp), ({ c with st := c.st + (e - y) * sp * c.sp } : Cu).upd, e) := by
  rw [inner, if_pos ⟨h, h2⟩, if_neg h0, if_neg hlt]
/-- The sums of a round. -/
structure Ar (y e sp st en s2 : Int) : Prop where
  w1 : IntKind.i32.wrap (e - y) = e - y
  w2 : IntKind.i32.wrap ((e - y) * sp) = (e - y) * sp
  w3 : IntKind.i32.wrap (en - st) = en - st
  w4 : IntKind.i32.wrap ((en - st) * s2) = (en - st) * s2
theorem ar_of {y e sp st en s2 : Int} (hy : Cp y) (he : Cp e) (hst : Cp st) (hen : Cp en) (h1 : (sp = 1 ∧ y ≤ e) ∨ (sp = -1 ∧ e ≤ y)) (h2 : (s2 = 1 ∧ st ≤ en) ∨ (s2 = -1 ∧ en ≤ st)) : Ar y e sp st en s2 := by
  unfold Cp at *
  rcases h1 with ⟨rfl, _⟩ | ⟨rfl, _⟩ <;> rcases h2 with ⟨rfl, _⟩ | ⟨rfl, _⟩ <;> exact ⟨IntWalk.i32_in _ (by omega), IntWalk.i32_in _ (by omega), IntWalk.i32_in _ (by omega), IntWalk.i32_in _ (by omega)⟩
structure ArL (y e sp st en s2 : Int) : Prop where
  w5 : IntKind.i32.wrap ((en - st) * s2 * sp) = (en - st) * s2 * sp
  w6 : IntKind.i32.wrap (y + (en - st) * s2 * sp) = y + (en - st) * s2 * sp
  w7 : IntKind.i32.wrap (y + (en - st) * s2 * sp + sp) = y + (en - st) * s2 * sp + sp
  c1 : Cp (y + (en - st) * s2 * sp)
  c2 : Cp (y + (en - st) * s2 * sp + sp)
  o : (sp = 1 ∧ y + (en - st) * s2 * sp + sp ≤ e) ∨ (sp = -1 ∧ e ≤ y + (en - st) * s2 * sp + sp)
theorem arl_of {y e sp st en s2 : Int} (hy : Cp y) (he : Cp e) (h1 : (sp = 1 ∧ y ≤ e) ∨ (sp = -1 ∧ e ≤ y)) (h2 : (s2 = 1 ∧ st ≤ en) ∨ (s2 = -1 ∧ en ≤ st)) (hlt : (en - st) * s2 < (e - y) * sp) : ArL y e sp st en s2 := by
  unfold Cp at hy he
  rcases h1 with ⟨rfl, _⟩ | ⟨rfl, _⟩ <;> rcases h2 with ⟨rfl, _⟩ | ⟨rfl, _⟩ <;> exact ⟨IntWalk.i32_in _ (by omega), IntWalk.i32_in _ (by omega), IntWalk.i32_in _ (by omega), by unfold Cp; omega, by unfold Cp; omega, by omega⟩
structure ArG (y e sp st en s2 : Int) : Prop where
  w5 : IntKind.i32.wrap ((e - y) * sp * s2) = (e - y) * sp * s2
  w6 : IntKind.i32.wrap (st + (e - y) * sp * s2) = st + (e - y) * sp * s2
  c1 : Cp (st + (e - y) * sp * s2)
  o : (s2 = 1 ∧ st + (e - y) * sp * s2 ≤ en) ∨ (s2 = -1 ∧ en ≤ st + (e - y) * sp * s2)
theorem arg_of {y e sp st en s2 : Int} (hy : Cp y) (he : Cp e) (hst : Cp st) (hen : Cp en) (h1 : (sp = 1 ∧ y ≤ e) ∨ (sp = -1 ∧ e ≤ y)) (h2 : (s2 = 1 ∧ st ≤ en) ∨ (s2 = -1 ∧ en ≤ st)) (hlt : ¬ (en - st) * s2 < (e - y) * sp) : ArG y e sp st en s2 := by
  unfold Cp at *
  rcases h1 with ⟨rfl, _⟩ | ⟨rfl, _⟩ <;> rcases h2 with ⟨rfl, _⟩ | ⟨rfl, _⟩ <;> exact ⟨IntWalk.i32_in _ (by omega), IntWalk.i32_in _ (by omega), by unfold Cp; omega, by omega⟩
/-- One step on is still in the range. -/
theorem step_in {y e sp : Int} (hy : Cp y) (he : Cp e) (h1 : (sp = 1 ∧ y ≤ e) ∨ (sp = -1 ∧ e ≤ y)) (hne : y ≠ e) : Cp (y + sp) ∧ ((sp = 1 ∧ y + sp ≤ e) ∨ (sp = -1 ∧ e ≤ y + sp)) ∧ IntKind.i32.wrap (y + sp) = y + sp := by
  unfold Cp at hy he
  exact ⟨by unfold Cp; omega, by omega, IntWalk.i32_in _ (by omega)⟩
theorem cu_mv {c : Cu} {n : Nat} (h : c.Ok n) {x : Int} (hx : Cp x) (ho : c.sp = 1 ∧ x ≤ c.en ∨ c.sp = -1 ∧ c.en ≤ x) : ({ c with st := x } : Cu).Ok n := ⟨hx, h.en, .inr (.inr ho), h.len⟩

theorem cu_tx {B b be bs bt bx : Nat} {w wr : World} {c : Cu} (k : Bks B b be bs bt bx w.heap.size) (h : CuAt be bs bt bx c wr) (x : List UInt8) : CuAt be bs bt bx { c with tx := x } (wr.setCell ⟨bt, 0, none⟩ (.string (txt x))) :=
  ⟨by rw [Below.heap_setCell _ _ _ _ k.d2]; exact h.en, by rw [Below.heap_setCell _ _ _ _ k.d4]; exact h.sp, one_setCell h.tx, by rw [Below.heap_setCell _ _ _ _ k.d6.symm]; exact h.st⟩
theorem cu_en {B b be bs bt bx : Nat} {w wr : World} {c : Cu} (k : Bks B b be bs bt bx w.heap.size) (h : CuAt be bs bt bx c wr) (x : Int) : CuAt be bs bt bx { c with en := x } (wr.setCell ⟨be, 0, none⟩ (.int .i32 x)) :=
  ⟨one_setCell h.en, by rw [Below.heap_setCell _ _ _ _ k.d1.symm]; exact h.sp, by rw [Below.heap_setCell _ _ _ _ k.d2.symm]; exact h.tx, by rw [Below.heap_setCell _ _ _ _ k.d3.symm]; exact h.st⟩
theorem St.settx {B b be bs bt bx : Nat} {w wr : World} {T : Tr} {c : Cu} {v : Value} (k : Bks B b be bs bt bx w.heap.size) (h : St B b be bs bt bx w T c v wr) (x : List UInt8) (hx : ({ c with tx := x } : Cu).Ok 10000) : St B b be bs bt bx w T { c with tx := x } v (wr.setCell ⟨bt, 0, none⟩ (.string (txt x))) :=
  h.cap k (cu_tx k h.cu x) ((Cap.refl _ _ _ _ _).set (.inr (.inr (.inl rfl))) _) hx
theorem St.seten {B b be bs bt bx : Nat} {w wr : World} {T : Tr} {c : Cu} {v : Value} (k : Bks B b be bs bt bx w.heap.size) (h : St B b be bs bt bx w T c v wr) (x : Int) (hx : ({ c with en := x } : Cu).Ok 10000) : St B b be bs bt bx w T { c with en := x } v (wr.setCell ⟨be, 0, none⟩ (.int .i32 x)) :=
  h.cap k (cu_en k h.cu x) ((Cap.refl _ _ _ _ _).set (.inl rfl) _) hx
theorem lastR_step (f : Nat) (x : Int) (a rest : List UInt8) (r : Nat) (ha : a ≠ []) (hd : decodeL (a ++ rest) = (r, a.length)) : lastR (f + 1) x (a ++ rest) = lastR f r rest := by
  have h : a ++ rest ≠ [] := by simp [ha]
  rw [lastR, if_neg h, hd, List.drop_left]
theorem lastR_nil (f : Nat) (x : Int) : lastR f x [] = x := by cases f <;> simp [lastR]
theorem lastR_cp : ∀ (f : Nat) (x : Int) (l : List UInt8), Cp x → Cp (lastR f x l)
  | 0, _, _, h => h
  | f + 1, x, l, h => by
    unfold lastR
    split
    · exact h
    · exact lastR_cp f _ _ (sc_cp (decode_sc l))
/-- What of the two patterns is told at the start. -/
theorem hd_rev {l : List UInt8} (hne : l ≠ []) (hsz : 0 < (txt l).size) : ((((txt l)[0]'hsz).toNat : Int) == 94) = isRev l := by
  cases l with
  | nil => exact absurd rfl hne
  | cons x r =>
    have e : ((txt (x :: r))[0]'hsz) = x := rfl
    rw [e]
    unfold isRev
    simp only [List.head?_cons]
    by_cases h : x = 94
    · subst h; rfl
    · have h2 : ¬ (x.toNat : Int) = 94 := fun k => h (by apply UInt8.toNat_inj.1; show x.toNat = 94; omega)
      have h3 : ¬ some x = some 94 := by simp [h]
      rw [beq_eq_false_iff_ne.2 h2, beq_eq_false_iff_ne.2 h3]
theorem rev_cons {l : List UInt8} (h : isRev l = true) : ∃ r, l = 94 :: r := by
  cases l with
  | nil => cases h
  | cons x r =>
    unfold isRev at h
    simp at h
    exact ⟨r, by rw [h]⟩

end Go.Proofs.YtbomlhhpokknaaaDoor
