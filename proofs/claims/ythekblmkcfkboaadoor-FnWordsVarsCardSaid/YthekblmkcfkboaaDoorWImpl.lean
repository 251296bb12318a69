/- impl's parser and Words, over Parse without variables. -/
import Derived.Test.YthekblmkcfkboaaDoorWWalk
import Derived.Test.YthekblmkcfkboaaDoorWRunes
namespace Go.Proofs.YthekblmkcfkboaaDoor
open Go.RowKit U8
open Go.Lib hiding intOf

def runesCells (W : World) (rs : List Nat) : Array Value := (cells rs).toArray ++ Array.replicate (grownCap W rs.length 0 21 - rs.length) (.int .i32 0)
theorem runesWorld_alloc (W : World) (rs : List Nat) : runesWorld W rs = W.drew.alloc (.cells (runesCells W rs) 21) := rfl
abbrev shellV (cmt : Bool) (kp : List UInt8) : Value := .agg #[.bool false, .bool cmt, .slice none 0 0, .string (txt kp)]
theorem runesCells_get (W : World) (rs : List Nat) (j x : Nat) (h : rs[j]? = some x) : (runesCells W rs)[j]? = some (Value.int .i32 (x : Int)) := by
  have hj : j < rs.length := (List.getElem?_eq_some_iff.1 h).1
  have h2 := cells_get rs j
  rw [h] at h2
  unfold runesCells
  rw [Array.getElem?_append_left (by simpa [cells] using hj)]
  simpa using h2
theorem parser_post (cmt : Bool) (rs : List Nat) (w : World) (gv : Value) (cap : Nat) (A : Obj) (C : Array Value) (hC : ∀ (j x : Nat), rs[j]? = some x → C[j]? = some (Value.int .i32 (x : Int))) (w' : World)
    (hw : w' = (((w.alloc A).alloc (.cells #[.bool false, .bool cmt, .int .i64 0, .slice (some ⟨w.heap.size + 1 + 1, 0, none⟩) rs.length cap, gv] 54)).alloc (.cells C 21)).drew) :
    ∃ pp gv, Ending.returned (.pointer (some ⟨w.heap.size + 1, 0, none⟩)) = .returned (.pointer (some ⟨pp, 0, none⟩)) ∧ w.heap.size ≤ pp ∧ pp < w'.heap.size ∧ Below w.heap.size w w' ∧
      w'.cell? ⟨pp, 0, none⟩ = some (.bool false) ∧ w'.cell? ⟨pp, 1, none⟩ = some (.bool cmt) ∧ w'.cell? ⟨pp, 2, none⟩ = some (.int .i64 0) ∧ w'.cell? ⟨pp, 4, none⟩ = some gv ∧ w'.frozen? ⟨pp, 2, none⟩ = false ∧ Ex pp rs w' := by
  have s1 : (w.alloc A).heap.size = w.heap.size + 1 := by simp
  generalize hB : Obj.cells #[.bool false, .bool cmt, .int .i64 0, .slice (some ⟨w.heap.size + 1 + 1, 0, none⟩) rs.length cap, gv] 54 = B at hw
  have s2 : ((w.alloc A).alloc B).heap.size = w.heap.size + 1 + 1 := by simp
  have h2 := heap_alloc_new (w.alloc A) B
  rw [s1] at h2
  have h3 := heap_alloc_new ((w.alloc A).alloc B) (.cells C 21)
  rw [s2] at h3
  have h4 := alloc_old ((w.alloc A).alloc B) (.cells C 21) (w.heap.size + 1) (by omega)
  rw [h2, ← hB] at h4
  have sz : w'.heap.size = w.heap.size + 1 + 1 + 1 := by rw [hw]; simp
  have hb : Below w.heap.size w w' := by
    rw [hw]
    exact ((((Below.refl _ _).alloc (Nat.le_refl _) A).alloc (by simp) B).alloc (by simp; omega) _).drew
  have h4B : w'.heap[w.heap.size + 1]? = some (.cells #[.bool false, .bool cmt, .int .i64 0, .slice (some ⟨w.heap.size + 1 + 1, 0, none⟩) rs.length cap, gv] 54 (0, 0)) := by rw [hw, ← hB]; exact h4
  have h4C : w'.heap[w.heap.size + 1 + 1]? = some (.cells C 21 (0, 0)) := by rw [hw]; exact h3
  refine ⟨w.heap.size + 1, gv, rfl, by omega, by omega, hb, by simp [World.cell?, h4B], by simp [World.cell?, h4B], by simp [World.cell?, h4B], by simp [World.cell?, h4B], by simp [World.frozen?, h4B], _, cap, by simp [World.cell?, h4B]; exact rfl, ?_⟩
  intro j x hj
  refine ⟨_, rfl, ?_⟩
  have h := hC j x hj
  simp [World.cell?, h4C, h]
set_option maxHeartbeats 1600000 in
theorem parser_any (cmt : Bool) (rs : List Nat) (hs : Scs rs) (hl : rs.length ≤ 1000) (w : World) :
    Calls Tryd.prog 25 #[shellV cmt (enc rs)] w fun e w' => ∃ pp gv, e = .returned (.pointer (some ⟨pp, 0, none⟩)) ∧ w.heap.size ≤ pp ∧ pp < w'.heap.size ∧ Below w.heap.size w w' ∧
      w'.cell? ⟨pp, 0, none⟩ = some (.bool false) ∧ w'.cell? ⟨pp, 1, none⟩ = some (.bool cmt) ∧ w'.cell? ⟨pp, 2, none⟩ = some (.int .i64 0) ∧ w'.cell? ⟨pp, 4, none⟩ = some gv ∧ w'.frozen? ⟨pp, 2, none⟩ = false ∧ Ex pp rs w' := by
  have hcv : ∀ W : World, (convert 9 51 (.string (txt (enc rs)))).run Tryd.prog W = .ok (.slice (some ⟨W.heap.size, 0, none⟩) rs.length (grownCap W rs.length 0 21)) (W.drew.alloc (.cells (runesCells W rs) 21)) := fun W => run_text_runes W rs hs (by omega)
  have HS := Lib.hid hs
  clear hs
  go_enter Tryd.func25, Tryd.ntmps25
  go_wp2
  refine bodyPost_end (results_none rfl _ _ _) rfl ?_
  go_wp2
  go_ret
  generalize hcap : grownCap _ rs.length 0 21 = cap
  exact parser_post cmt rs w _ cap _ _ (runesCells_get _ rs) _ rfl

/-- The package's error is there. -/
def Er (W : World) : Prop := ∃ tp p, W.cell? ⟨0, 0, none⟩ = some (.iface tp p)
theorem Er.below {w w' : World} (h : Er w) (hb : Below w.heap.size w w') : Er w' := by
  obtain ⟨tp, p, h⟩ := h
  exact ⟨tp, p, (hb.cell (World.block_lt_of_cell? w _ h)).trans h⟩
theorem cell_set_same {w : World} {b o : Nat} {u v : Value} (h : w.cell? ⟨b, o, none⟩ = some u) : (w.setCell ⟨b, o, none⟩ v).cell? ⟨b, o, none⟩ = some v := by
  unfold World.cell? at h
  split at h
  · rename_i c e m hh
    simp only [Option.isSome_none, Bool.false_eq_true, if_false] at h
    have ho : o < c.size := (Array.getElem?_eq_some_iff.1 h).1
    have hh' : w.heap[b]? = some (.cells c e m) := hh
    have hs : (w.setCell ⟨b, o, none⟩ v).heap[b]? = some (.cells (c.setIfInBounds o v) e m) := by
      simp [World.setCell, Array.getElem?_modify, hh']
    simp [World.cell?, hs, ho]
  · cases h
/-- What Words leaves. -/
def WordsPost (R : Option (List (List UInt8) × Int)) (w : World) (e : Ending) (w' : World) : Prop :=
  Below w.heap.size w w' ∧ (R = none → e = .returned (.tuple #[.slice none 0 0, .int .i64 0, .bool false])) ∧
  (∀ args pos, R = some (args, pos) → ∃ ao cap, e = .returned (.tuple #[.slice ao args.length cap, .int .i64 pos, .bool true]) ∧ w'.ownsRow w.heap.size 9 1 (.slice ao args.length cap) args.length (strsV args))
set_option maxHeartbeats 3200000 in
theorem words_any (cmt : Bool) (rs : List Nat) (hs : Scs rs) (hr : rs.length ≤ 1000) (l : List UInt8) (hl : l.length ≤ 100000) (w : World) (hE : Er w) :
    Calls Tryd.prog 13 #[.string (txt l), shellV cmt (enc rs)] w (WordsPost (runS cmt rs Sx.start (rns l)) w) := by
  obtain ⟨R, hR⟩ : ∃ R, runS cmt rs Sx.start (rns l) = R := ⟨_, rfl⟩
  have HR := Lib.hid hR
  have CP := Lib.hid fun W => parser_any cmt rs hs hr W
  have HE := Lib.hid hE
  rw [hR]
  clear hR hE hs
  go_enter Tryd.func13, Tryd.ntmps13
  go_wp2_with fail
  refine (CP.out _).mono ?_
  rintro e w1 ⟨pp, gv, rfl, hp0, hp1, hb1, c0, c1, c2, c4, f2, hX⟩
  have hb1' := chain ((Below.refl w.heap.size w).alloc (Nat.le_refl _) _) hb1
  have hE1 := HE.out.below hb1'
  obtain ⟨tp, pv, hev⟩ := hE1
  have CQ := Lib.hid (parse_any cmt rs l pp gv (.iface tp pv) w1 hl (by omega) hp1 c0 c1 ⟨_, c2⟩ c4 f2 hX hev)
  rw [HR.out] at CQ
  simp at hp0
  have HC2 := Lib.hid c2
  have HB1 := Lib.hid hb1'
  clear c0 c1 c2 c4 f2 hX hev hb1 hb1'
  go_wp2_with fail
  refine CQ.out.mono ?_
  rintro e w2 ⟨hN, hS⟩
  cases hRc : R with
  | none =>
    subst hRc
    obtain ⟨rfl, hb2⟩ := hN rfl
    have HB2 := Lib.hid (HB1.out.trans (hb2.mono (HB1.out.size)))
    clear hN hS hb2
    go_wp2
    go_ret3
    exact ⟨HB2.out, fun _ => rfl, fun _ _ h => (by cases h)⟩
  | some q =>
    obtain ⟨args, pos⟩ := q
    subst hRc
    obtain ⟨ao, cap, w3, rfl, hb3, rfl, hown⟩ := hS args pos rfl
    have c2 : (w3.setCell ⟨pp, 2, none⟩ (.int .i64 pos)).cell? ⟨pp, 2, none⟩ = some (.int .i64 pos) := cell_set_same ((hb3.cell hp1).trans HC2.out)
    have hb4 := (HB1.out.trans (hb3.mono HB1.out.size)).setCell (p := ⟨pp, 2, none⟩) (by show w.heap.size ≤ pp; omega) (.int .i64 pos)
    have HB2 := Lib.hid hb4
    have hown2 := owns_base hown HB1.out.size
    have HO := Lib.hid hown2
    generalize w3.setCell ⟨pp, 2, none⟩ (.int .i64 pos) = w4 at *
    clear hN hS hown hb3 hb4 hown2
    go_wp2
    go_quiet (fail)
    go_wp2
    go_ret3
    refine ⟨⟨HB2.out.os, HB2.out.tape, HB2.out.output, HB2.out.size, HB2.out.block⟩, fun h => (by cases h), fun a' p' h => ?_⟩
    cases h
    exact ⟨ao, cap, rfl, HO.out⟩

end Go.Proofs.YthekblmkcfkboaaDoor
