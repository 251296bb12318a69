/- Patterns as the reference reads them: the plain function, and what the walk keeps. -/
import Derived.Test.YtbomlhhpokknaaaDoorTrLaws
import Derived.Test.YtbomlhhpokknaaaDoorTAdd
import Derived.Test.YtbomlhhpokknaaaDoorQHelp
namespace Go.Proofs.YtbomlhhpokknaaaDoor
open Go.RowKit U8
open Go.Lib hiding intOf

theorem run_text_runesB (w : World) (rs : List Nat) (h : Scs rs) (hl : rs.length ≤ 70368744177664) :
    (convert 9 49 (.string (txt (enc rs)))).run Tryd.prog w = .ok (.slice (some ⟨w.heap.size, 0, none⟩) rs.length (grownCap w rs.length 0 21)) (runesWorld w rs) := by
  have e : Conv.runesFrom (txt (enc rs)) (txt (enc rs)).size 0 #[] = (cells rs).toArray := by
    have := runesFrom_enc rs [] (txt (enc rs)).size #[] h (by rw [txt_size]; exact enc_length_ge rs)
    simpa [enc] using this
  have hsz : (cells rs).toArray.size = rs.length := by simp [cells]
  have := run_runes_of_string (P := Tryd.prog) w 9 49 21 (txt (enc rs)) Tryd.underlying9 Tryd.underlying49 Tryd.underlying21 (by rw [e, hsz]; omega)
  rw [e, hsz] at this
  exact this
set_option maxHeartbeats 800000 in
theorem settled1 (s : ByteArray) (B : Bool) (w : World) (hs : s.size ≤ 2147483647) (hT : Tabs w) (hB : validD s.data.toList = B) :
    Calls Tryd.prog 32 #[.slice (some ⟨w.heap.size, 0, none⟩) 1 1] (w.alloc (.cells #[.string s] 9)) fun e w' => e = .returned (.bool B) ∧ Below w.heap.size w w' := by
  have hb0 : Below w.heap.size w (w.alloc (.cells #[.string s] 9)) := (Below.refl _ _).alloc (Nat.le_refl _) _
  have hc0 : (w.alloc (.cells #[.string s] 9)).cell? ⟨w.heap.size, 0, none⟩ = some (.string s) := by simp
  have hz0 : w.heap.size < (w.alloc (.cells #[.string s] 9)).heap.size := by simp
  generalize w.alloc (.cells #[.string s] 9) = wa at *
  have cV := Lib.hid fun W (h : Tabs W) => hB ▸ Tryd.utf8_ValidString s W (by omega) h
  clear hB
  go_enter Tryd.func32, Tryd.ntmps32
  go_wp2
  go_loopg [7] 3 (fun gk i wr => ∃ k : Nat, i = .int .i64 k ∧ (k = 0 ∨ (k = 1 ∧ Hid (B = true))) ∧ 2 - k < gk ∧ Below wa.heap.size wa wr)
  case atStart => exact ⟨0, rfl, .inl rfl, by omega, Below.refl _ _⟩
  case round =>
    obtain ⟨k, rfl, hk, hg, hb⟩ := hrel
    have hbw : Below w.heap.size w wr := hb0.trans (hb.mono (by omega))
    rcases hk with rfl | ⟨rfl, hBt⟩
    · obtain ⟨gk, rfl⟩ : ∃ m, gk = m + 1 := ⟨gk - 1, by omega⟩
      have hc := (hb.cell (p := ⟨w.heap.size, 0, none⟩) hz0).trans hc0
      cases B
      · go_wp2_with (go_at_call 35; refine (cV.out _ (hT.below hbw)).mono ?_; rintro e w1 ⟨rfl, hb1⟩)
        go_ret
        exact ⟨rfl, chain hbw hb1⟩
      · go_wp2_with (go_at_call 35; refine (cV.out _ (hT.below hbw)).mono ?_; rintro e w1 ⟨rfl, hb1⟩)
        go_roundg gk
        case rel => exact ⟨1, rfl, .inr ⟨rfl, by first | exact rfl | exact trivial⟩, by omega, hb.trans (hb1.mono hb.size)⟩
        case measure => omega
    · go_wp2
      go_ret
      exact ⟨by rw [hBt.out]; rfl, hbw⟩

/-- What a range over a text of characters hands over. -/
theorem next_enc (W : World) (k : Nat) (done rest : List Nat) (r : Nat) (hk : W.heap[k]? = some (.stringIter (txt (enc (done ++ r :: rest))) (enc done).length)) (hr : Sc r) (ty : TypeId) :
    (Instr.next (.pointer (some ⟨k, 0, none⟩)) true ty).run Tryd.prog W = .ok (.tuple #[.bool true, .int .i64 (enc done).length, .int .i32 r]) (W.iterAt k (txt (enc (done ++ r :: rest))) (enc (done ++ [r])).length) := by
  have hp : (enc done).length < (txt (enc (done ++ r :: rest))).size := by
    have := enc1_pos r
    rw [txt_size, enc_append, List.length_append, enc_cons, List.length_append]; omega
  have hlen : (enc (done ++ [r])).length = (enc done).length + (enc1 r).length := by rw [enc_append, List.length_append, enc_one]
  rw [run_next_any_at W k _ _ ty hk hp, hlen, decode_txt done rest r hr]


def sgt (a : Nat) : Bool := decide (55296 ≤ a ∧ a ≤ 57343)
/-- From a on to b, one by one. -/
def expF : Nat → Nat → Nat → List Nat → Option (List Nat)
  | 0, _, _, acc => some acc
  | f + 1, a, b, acc => if a = b then some acc else if sgt (if a < b then a + 1 else a - 1) then none else expF f (if a < b then a + 1 else a - 1) b (acc ++ [if a < b then a + 1 else a - 1])
def hd45 (l : List Nat) : Bool := l.head? == some 45
def badD (d : Nat) : Bool := d == 45 || d == 92 || d == 94
/-- A pattern, read: its characters, or none where the documentation says nothing. -/
def patF (tt nt : Bool) : Nat → Bool → Bool → List Nat → List Nat → Option (List Nat)
  | 0, _, _, acc, _ => some acc
  | _ + 1, _, _, acc, [] => some acc
  | f + 1, fi, si, acc, c :: r =>
    if c = 92 then
      match r with
      | [] => none
      | d :: r2 => if badD d = false then none else if hd45 r2 then none else patF tt nt f false false (acc ++ [d]) r2
    else if c = 45 then
      if si = false then none else
      match r with
      | [] => none
      | d :: r2 =>
        if badD d then none
        else if acc.getLastD 0 > d + 5000 ∨ d > acc.getLastD 0 + 5000 then none
        else match expF 5001 (acc.getLastD 0) d acc with
          | none => none
          | some acc2 => if hd45 r2 then none else patF tt nt f false false acc2 r2
    else if c = 94 ∧ (fi = false ∨ nt = true) ∧ tt = false then
      if hd45 r then none else patF tt nt f false false (acc ++ [94]) r
    else patF tt nt f false true (acc ++ [c]) r
def notOf (tt : Bool) (p : List Nat) : Bool := !tt && (p.head? == some 94)
def pat (tt : Bool) (p : List Nat) : Option (List Nat) :=
  if notOf tt p then (if p.length = 1 then none else patF tt true p.length true false [] (p.drop 1)) else patF tt false p.length true false [] p

/-! ### what the walk keeps -/
abbrev setT : TypeId := 51
structure PX (B r0 x0 g o : Nat) (ps acc : List Nat) (nt : Bool) (w wr : World) : Prop where
  res : wr.heap[r0]? = some (.cells #[.slice none 0 0, .bool false] 51 (0, 0))
  x : ∃ v, wr.heap[x0]? = some (.cells #[v, .bool nt] 51 (0, 0)) ∧ wr.ownsRow B 21 1 v acc.length (cells acc)
  p : ∀ j x, ps[j]? = some x → wr.cell? ⟨g, o + j, none⟩ = some (.int .i32 ((x : Nat) : Int))
  bw : Below w.heap.size w wr
  hB : B ≤ wr.heap.size
/-- Where these blocks lie. -/
structure PB (B r0 x0 g n : Nat) : Prop where
  l1 : g < B
  l2 : x0 < B
  l3 : r0 < B
  d1 : x0 ≠ g
  d2 : x0 ≠ r0
  d3 : r0 ≠ g
  g1 : n ≤ x0
  g2 : n ≤ r0
  g3 : n ≤ g
section
variable {B r0 x0 g o : Nat} {ps acc : List Nat} {nt : Bool} {w wr w2 : World}
theorem PX.drew (h : PX B r0 x0 g o ps acc nt w wr) : PX B r0 x0 g o ps acc nt w wr.drew := ⟨h.res, h.x, h.p, ⟨h.bw.os, h.bw.tape, h.bw.output, h.bw.size, h.bw.block⟩, h.hB⟩
theorem PX.drewN (h : PX B r0 x0 g o ps acc nt w wr) (n : Nat) : PX B r0 x0 g o ps acc nt w (wr.drewN n) := ⟨h.res, h.x, h.p, ⟨h.bw.os, h.bw.tape, h.bw.output, h.bw.size, h.bw.block⟩, h.hB⟩
/-- What a round finds. -/
theorem PX.cells (h : PX B r0 x0 g o ps acc nt w wr) : ∃ ao cap, wr.cell? ⟨x0, 0, none⟩ = some (.slice ao acc.length cap) ∧ wr.cell? ⟨x0, 1, none⟩ = some (.bool nt) ∧ wr.frozen? ⟨x0, 0, none⟩ = false ∧ wr.frozen? ⟨x0, 1, none⟩ = false ∧ wr.cell? ⟨r0, 0, none⟩ = some (.slice none 0 0) ∧ wr.cell? ⟨r0, 1, none⟩ = some (.bool false) ∧ wr.frozen? ⟨r0, 0, none⟩ = false ∧ wr.frozen? ⟨r0, 1, none⟩ = false ∧ x0 < wr.heap.size ∧ r0 < wr.heap.size ∧ wr.ownsRow B 21 1 (.slice ao acc.length cap) acc.length (Go.Proofs.YtbomlhhpokknaaaDoor.cells acc) := by
  obtain ⟨v, hx, hown⟩ := h.x
  have hr := h.res
  obtain ⟨ao, cap, rfl⟩ := owns_slice hown
  exact ⟨ao, cap, by simp [World.cell?, hx], by simp [World.cell?, hx], by simp [World.frozen?, hx], by simp [World.frozen?, hx], by simp [World.cell?, hr], by simp [World.cell?, hr], by simp [World.frozen?, hr], by simp [World.frozen?, hr], (Array.getElem?_eq_some_iff.1 hx).1, (Array.getElem?_eq_some_iff.1 hr).1, hown⟩
/-- A character is put behind the others. -/
theorem PX.app (k : PB B r0 x0 g w.heap.size) (h : PX B r0 x0 g o ps acc nt w wr) {ob : Obj} {ao ao' : Option Addr} {cap cap' : Nat} {c : Nat} (hv : wr.cell? ⟨x0, 0, none⟩ = some (.slice ao acc.length cap))
    (hg : (wr.alloc ob).grownBy w2 (Value.slice ao acc.length cap).ownBlock) (hown : w2.ownsRow B 21 1 (.slice ao' (acc.length + 1) cap') (acc.length + 1) (Go.Proofs.YtbomlhhpokknaaaDoor.cells acc ++ [.int .i32 (c : Int)])) :
    w2.cell? ⟨x0, 0, none⟩ = some (.slice ao acc.length cap) ∧ w2.frozen? ⟨x0, 0, none⟩ = false ∧ x0 < w2.heap.size ∧ PX B r0 x0 g o ps (acc ++ [c]) nt w (w2.setCell ⟨x0, 0, none⟩ (.slice ao' (acc.length + 1) cap')) := by
  obtain ⟨v, hx, hv2⟩ := h.x
  have e : v = .slice ao acc.length cap := by simpa [World.cell?, hx] using hv
  subst e
  have hrow : ∀ i, (Value.slice ao acc.length cap).ownBlock = some i → B ≤ i := fun i hi => (World.ownsRow.lt hv2 i hi).1
  have hs : wr.heap.size < (wr.alloc ob).heap.size := by simp
  have keep : ∀ (i : Nat) (q : Obj), wr.heap[i]? = some q → i < B → w2.heap[i]? = some q := fun i q hi hlt => by
    have hl := (Array.getElem?_eq_some_iff.1 hi).1
    rw [hg.block i (by omega) (fun e => by have := hrow i e.symm; omega)]
    show (wr.heap.push ob)[i]? = _
    rw [Array.getElem?_push, if_neg (by omega)]; exact hi
  have hx2 := keep x0 _ hx k.l2
  have hsz : wr.heap.size ≤ w2.heap.size := Nat.le_trans (Nat.le_of_lt hs) hg.size
  refine ⟨by simp [World.cell?, hx2], by simp [World.frozen?, hx2], (Array.getElem?_eq_some_iff.1 hx2).1, ?_, ⟨_, cells_set hx2 0 _, ?_⟩, fun j x hj => ?_, ?_, ?_⟩
  · rw [Below.heap_setCell _ _ _ _ (fun e => k.d2 e.symm)]; exact keep r0 _ h.res k.l3
  · have e : Go.Proofs.YtbomlhhpokknaaaDoor.cells (acc ++ [c]) = Go.Proofs.YtbomlhhpokknaaaDoor.cells acc ++ [.int .i32 (c : Int)] := by rw [cells_append]; rfl
    rw [List.length_append, e]
    exact ownsRow_setCell_below hown k.l2 _
  · rw [World.cell?_setCell_other _ _ _ _ (fun e => k.d1 (congrArg Addr.block e))]
    have hp := h.p j x hj
    have hl : g < wr.heap.size := World.block_lt_of_cell? wr _ hp
    have hb : w2.heap[g]? = wr.heap[g]? := by
      obtain ⟨q, hq⟩ : ∃ q, wr.heap[g]? = some q := ⟨_, Array.getElem?_eq_getElem hl⟩
      rw [keep g q hq k.l1, hq]
    exact (World.cell?_of_block hb).trans hp
  · refine (h.bw.trans ⟨hg.os, hg.tape, hg.output, by omega, fun i hi => ?_⟩).setCell k.g1 _
    have := h.bw.size; have := k.g1; have := k.l2
    rw [hg.block i (by omega) (fun e => by have := hrow i e.symm; omega)]
    show (wr.heap.push ob)[i]? = _
    rw [Array.getElem?_push, if_neg (by omega)]
  · have := h.hB
    rw [set_size]; omega
end
theorem drop_get {l : List Nat} {k c : Nat} {r : List Nat} (h : l.drop k = c :: r) : l[k]? = some c ∧ l.drop (k + 1) = r := by
  refine ⟨?_, ?_⟩
  · have e := congrArg List.head? h
    rw [List.head?_drop] at e
    exact e
  · have e := congrArg (List.drop 1) h
    rw [List.drop_drop] at e
    exact e
theorem patF_dflt {tt nt : Bool} {f : Nat} {fi si : Bool} {acc : List Nat} {c : Nat} {r : List Nat} (h92 : ¬ c = 92) (h45 : ¬ c = 45) (h94 : ¬ (c = 94 ∧ (fi = false ∨ nt = true) ∧ tt = false)) : patF tt nt (f + 1) fi si acc (c :: r) = patF tt nt f false true (acc ++ [c]) r := by
  cases r <;> (rw [patF.eq_def]; simp only [h92, h45, h94, if_false])
theorem patF_hat {nt : Bool} {f : Nat} {fi si : Bool} {acc : List Nat} {r : List Nat} (h : fi = false ∨ nt = true) : patF false nt (f + 1) fi si acc (94 :: r) = if hd45 r then none else patF false nt f false false (acc ++ [94]) r := by
  cases r <;> (rw [patF.eq_def]; simp [h])
theorem patF_esc {tt nt : Bool} {f : Nat} {fi si : Bool} {acc : List Nat} {d : Nat} {r : List Nat} (hd : badD d = true) : patF tt nt (f + 1) fi si acc (92 :: d :: r) = if hd45 r then none else patF tt nt f false false (acc ++ [d]) r := by
  rw [patF.eq_def]; simp [hd]
theorem patF_esc0 {tt nt : Bool} {f : Nat} {fi si : Bool} {acc : List Nat} : patF tt nt (f + 1) fi si acc [92] = none := by
  rw [patF.eq_def]; simp
theorem patF_esc1 {tt nt : Bool} {f : Nat} {fi si : Bool} {acc : List Nat} {d : Nat} {r : List Nat} (hd : badD d = false) : patF tt nt (f + 1) fi si acc (92 :: d :: r) = none := by
  rw [patF.eq_def]; simp [hd]
theorem patF_das0 {tt nt : Bool} {f : Nat} {fi : Bool} {acc r : List Nat} : patF tt nt (f + 1) fi false acc (45 :: r) = none := by
  cases r <;> (rw [patF.eq_def]; simp)
theorem patF_das1 {tt nt : Bool} {f : Nat} {fi si : Bool} {acc : List Nat} : patF tt nt (f + 1) fi si acc [45] = none := by
  rw [patF.eq_def]; simp
theorem patF_das2 {tt nt : Bool} {f : Nat} {fi si : Bool} {acc : List Nat} {d : Nat} {r : List Nat} (hd : badD d = true) : patF tt nt (f + 1) fi si acc (45 :: d :: r) = none := by
  rw [patF.eq_def]; simp [hd]
theorem patF_das3 {tt nt : Bool} {f : Nat} {fi si : Bool} {acc : List Nat} {d : Nat} {r : List Nat} (hd : badD d = false) (h : acc.getLastD 0 > d + 5000 ∨ d > acc.getLastD 0 + 5000) : patF tt nt (f + 1) fi si acc (45 :: d :: r) = none := by
  rw [patF.eq_def]
  simp only [hd, Bool.false_eq_true, if_false, if_pos h, show (45 = 92) = False by simp, if_true]
  cases si <;> rfl
theorem patF_das4 {tt nt : Bool} {f : Nat} {fi : Bool} {acc : List Nat} {d : Nat} {r : List Nat} (hd : badD d = false) (h : ¬ (acc.getLastD 0 > d + 5000 ∨ d > acc.getLastD 0 + 5000)) : patF tt nt (f + 1) fi true acc (45 :: d :: r) = match expF 5001 (acc.getLastD 0) d acc with | none => none | some acc2 => if hd45 r then none else patF tt nt f false false acc2 r := by
  rw [patF.eq_def]
  simp only [hd, Bool.false_eq_true, if_false, if_neg h, show (45 = 92) = False by simp, if_true, show (true = false) = False by simp]
theorem ff_of {P : Prop} : (true : Bool) = false → P := fun h => by cases h
theorem ff_of' {P : Prop} : (false : Bool) = true → P := fun h => by cases h
theorem tf_of {P : Prop} : (false : Bool) = true → P := fun h => by cases h
theorem nil_le : Hid (∀ x ∈ ([] : List Nat), x ≤ 1114111) := by show ∀ x ∈ _, _; simp
theorem all_snoc {c : Nat} (hc : c ≤ 1114111) {acc : List Nat} (h : ∀ x ∈ acc, x ≤ 1114111) : ∀ x ∈ acc ++ [c], x ≤ 1114111 := fun x hx => by
  rcases List.mem_append.1 hx with h1 | h1
  · exact h x h1
  · simp at h1; subst h1; exact hc
theorem px_ret {B r0 x0 g o : Nat} {ps acc : List Nat} {nt : Bool} {w wr : World} (k : PB B r0 x0 g w.heap.size) (h : PX B r0 x0 g o ps acc nt w wr) (v nb : Value) :
    ((wr.setCell ⟨r0, 0, none⟩ v).setCell ⟨r0, 1, none⟩ nb).cell? ⟨r0, 0, none⟩ = some v ∧ ((wr.setCell ⟨r0, 0, none⟩ v).setCell ⟨r0, 1, none⟩ nb).cell? ⟨r0, 1, none⟩ = some nb ∧ Below w.heap.size w ((wr.setCell ⟨r0, 0, none⟩ v).setCell ⟨r0, 1, none⟩ nb) ∧
      ∀ (v' : Value) (n : Nat) (xs : List Value), wr.ownsRow B 21 1 v' n xs → ((wr.setCell ⟨r0, 0, none⟩ v).setCell ⟨r0, 1, none⟩ nb).ownsRow w.heap.size 21 1 v' n xs := by
  have e1 := cells_set h.res 0 v
  have e2 := cells_set e1 1 nb
  refine ⟨by simp [World.cell?, e2], by simp [World.cell?, e2], (h.bw.setCell k.g2 _).setCell k.g2 _, fun v' n xs hown => ?_⟩
  exact owns_base (ownsRow_setCell_below (ownsRow_setCell_below hown k.l3 _) k.l3 _) (by have := k.g2; have := k.l3; omega)
theorem last_get {acc : List Nat} (h : acc ≠ []) : acc[acc.length - 1]? = some (acc.getLastD 0) := by
  rw [List.getLastD_eq_getLast?, List.getLast?_eq_getElem?]
  have hl : 0 < acc.length := List.length_pos_iff.2 h
  rw [List.getElem?_eq_getElem (by omega)]
  rfl
theorem getD_mem {acc : List Nat} (h : acc ≠ []) : acc.getLastD 0 ∈ acc := List.mem_of_getElem? (last_get h)
theorem expF_len : ∀ (f a b : Nat) (acc L : List Nat), expF f a b acc = some L → L.length ≤ acc.length + f ∧ acc.length ≤ L.length
  | 0, _, _, acc, L, h => by cases h; omega
  | f + 1, a, b, acc, L, h => by
    unfold expF at h
    by_cases e : a = b
    · rw [if_pos e] at h; cases h; omega
    · rw [if_neg e] at h
      generalize (if a < b then a + 1 else a - 1) = a2 at h
      by_cases s : sgt a2 = true
      · rw [if_pos s] at h; cases h
      · rw [if_neg s] at h
        have := expF_len f _ _ _ _ h
        rw [List.length_append, List.length_singleton] at this
        omega
/-- What Pattern leaves. -/
def PatPost (R : Option (List Nat)) (nt : Bool) (w : World) (e : Ending) (w' : World) : Prop :=
  Below w.heap.size w w' ∧ (R = none → ∃ (ao : Option Addr) (n c : Nat) (nb : Bool), e = .returned (.tuple #[.agg #[.slice ao n c, .bool nb], .int .i64 2])) ∧
    (∀ L, R = some L → ∃ (ao : Option Addr) (c : Nat), e = .returned (.tuple #[.agg #[.slice ao L.length c, .bool nt], .int .i64 1]) ∧ w'.ownsRow w.heap.size 21 1 (.slice ao L.length c) L.length (cells L))
theorem PatPost.open {R : Option (List Nat)} {nt : Bool} {w w' : World} {e : Ending} (hR : R = none) (hb : Below w.heap.size w w') {ao : Option Addr} {n c : Nat} {nb : Bool} (he : e = .returned (.tuple #[.agg #[.slice ao n c, .bool nb], .int .i64 2])) : PatPost R nt w e w' :=
  ⟨hb, fun _ => ⟨ao, n, c, nb, he⟩, fun L h => by rw [hR] at h; cases h⟩
theorem PatPost.yes {R : Option (List Nat)} {nt : Bool} {w w' : World} {e : Ending} {L : List Nat} (hR : R = some L) (hb : Below w.heap.size w w') {ao : Option Addr} {c : Nat} (he : e = .returned (.tuple #[.agg #[.slice ao L.length c, .bool nt], .int .i64 1])) (hown : w'.ownsRow w.heap.size 21 1 (.slice ao L.length c) L.length (cells L)) : PatPost R nt w e w' :=
  ⟨hb, fun h => (by rw [hR] at h; cases h), fun L' h => by rw [hR] at h; cases h; exact ⟨ao, c, he, hown⟩⟩

end Go.Proofs.YtbomlhhpokknaaaDoor
