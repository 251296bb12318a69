/- The reference's FirstRuneToUpper, FirstRuneToLower, SwapCase at any text. -/
import Derived.Test.YthanbbflemkomaaDoorNWalk
namespace Go.Proofs.YthanbbflemkomaaDoor
open Go.RowKit U8
open Go.Lib hiding intOf

def runesWorld (w : World) (rs : List Nat) : World :=
  w.drew.alloc (.cells ((cells rs).toArray ++ Array.replicate (grownCap w rs.length 0 21 - rs.length) (.int .i32 0)) 21)
theorem run_text_runes (w : World) (rs : List Nat) (h : Scs rs) (hl : rs.length ≤ 1000000) :
    (convert 9 47 (.string (txt (enc rs)))).run Tryd.prog w = .ok (.slice (some ⟨w.heap.size, 0, none⟩) rs.length (grownCap w rs.length 0 21)) (runesWorld w rs) := by
  have e : Conv.runesFrom (txt (enc rs)) (txt (enc rs)).size 0 #[] = (cells rs).toArray := by
    have := runesFrom_enc rs [] (txt (enc rs)).size #[] h (by rw [txt_size]; exact enc_length_ge rs)
    simpa [enc] using this
  have hsz : (cells rs).toArray.size = rs.length := by simp [cells]
  have := run_runes_of_string (P := Tryd.prog) w 9 47 21 (txt (enc rs)) Tryd.underlying9 Tryd.underlying47 Tryd.underlying21 (by rw [e, hsz]; omega)
  rw [e, hsz] at this
  exact this
theorem runesWorld_size (w : World) (rs : List Nat) : (runesWorld w rs).heap.size = w.heap.size + 1 := by unfold runesWorld; simp
theorem runesWorld_below {B : Nat} {w W : World} (hb : Below B w W) (hB : B ≤ W.heap.size) (rs : List Nat) : Below B w (runesWorld W rs) := hb.drew.alloc hB _
theorem runesWorld_cell (w : World) (rs : List Nat) (j : Nat) (hj : j < rs.length) : (runesWorld w rs).cell? ⟨w.heap.size, j, none⟩ = (cells rs)[j]? := by
  have h := World.cell?_alloc_mark w.drew ((cells rs).toArray ++ Array.replicate (grownCap w rs.length 0 21 - rs.length) (.int .i32 0)) 21 (0, 0) j
  have e : (runesWorld w rs).cell? ⟨w.heap.size, j, none⟩ = _ := h
  rw [e, Array.getElem?_append_left (by simpa [cells] using hj)]
  simp
theorem runesWorld_frozen (w : World) (rs : List Nat) (j : Nat) : (runesWorld w rs).frozen? ⟨w.heap.size, j, none⟩ = false := by
  have h := World.frozen?_alloc_mark w.drew ((cells rs).toArray ++ Array.replicate (grownCap w rs.length 0 21 - rs.length) (.int .i32 0)) 21 0 0 j
  have e : (runesWorld w rs).frozen? ⟨w.heap.size, j, none⟩ = _ := h
  rw [e]; simp

/-- Whole numbers as a row of characters. -/
def icells (zs : List Int) : List Value := zs.map fun z => Value.int .i32 z
theorem icells_length (zs : List Int) : (icells zs).length = zs.length := by simp [icells]
theorem icells_snoc (zs : List Int) (z : Int) : icells (zs ++ [z]) = icells zs ++ [.int .i32 z] := by simp [icells]
theorem run_own_ints {w : World} {base : Nat} {v : Value} {n : Nat} (zs : List Int) (hown : w.ownsRow base 21 1 v n (icells zs)) :
    (convert 47 9 v).run Tryd.prog w = .ok (.string (txt (zs.flatMap encodeRune))) w := by
  have hn : zs.length = n := by have := hown.1; rw [icells_length] at this; omega
  rcases hown.2 with ⟨rfl, h0⟩ | ⟨g, cap, cur, rfl, _⟩
  · have : zs = [] := List.eq_nil_of_length_eq_zero (by omega)
    subst this
    exact run_convert_runes_nil w _ _ 21 0 0 Tryd.underlying47 Tryd.underlying21 Tryd.underlying9
  · have hc := World.ownsRow.cells hown (g := g) rfl
    rw [run_convert_runes w _ _ 21 ⟨g, 0, none⟩ n cap zs (by omega) Tryd.underlying47 Tryd.underlying21 Tryd.underlying9]
    · rw [List.take_of_length_le (by omega), runesBytes_any]
    · intro j hj
      apply hc j
      unfold icells
      rw [List.getElem?_map, List.getElem?_eq_getElem hj]
      simp [List.getD, List.getElem?_eq_getElem hj]
/-- The rest of a row of characters, behind the first one. -/
theorem run_tail_text {w : World} {g cap : Nat} (r : Nat) (rs : List Nat) (hs : Scs (r :: rs)) (hcap : rs.length + 1 ≤ cap) (hc : ∀ j, j < (r :: rs).length → w.cell? ⟨g, j, none⟩ = (cells (r :: rs))[j]?) :
    (convert 47 9 (.slice (if cap = 1 then some ⟨g, 0, none⟩ else some ⟨g, 1, none⟩) rs.length (cap - 1))).run Tryd.prog w = .ok (.string (txt (enc rs))) w := by
  by_cases h1 : cap = 1
  · have : rs = [] := List.eq_nil_of_length_eq_zero (by omega)
    subst this
    rw [if_pos h1]
    rw [run_convert_runes w _ _ 21 ⟨g, 0, none⟩ _ _ [] (by simp) Tryd.underlying47 Tryd.underlying21 Tryd.underlying9 (fun j hj => by simp at hj)]
    rfl
  · rw [if_neg h1, run_convert_runes w _ _ 21 ⟨g, 1, none⟩ rs.length (cap - 1) (rs.map fun (r : Nat) => (r : Int)) (by simp) Tryd.underlying47 Tryd.underlying21 Tryd.underlying9]
    · rw [List.take_of_length_le (by simp), runesBytes_enc rs hs.tail]
    · intro j hj
      rw [List.length_map] at hj
      have hadd : (⟨g, 1, none⟩ : Addr).add j = ⟨g, j + 1, none⟩ := by
        unfold Addr.add
        split
        · rename_i h; rw [h]
        · rw [Nat.add_comm]
      rw [hadd, hc (j + 1) (by simp; omega), cells_get, List.getElem?_cons_succ, List.getElem?_eq_getElem hj]
      simp [List.getD, List.getElem?_eq_getElem hj]
theorem csR_i32 {u lw : Bool} {r : Int} (h : I32 r) : I32 (csR u lw r).1 := by
  unfold csR cs
  by_cases hc : (isTitleU r || (!isLowerU r && toUpperU r != r) || (!isUpperU r && toLowerU r != r)) = true
  · rw [if_pos hc]; show I32 0; unfold I32; omega
  · rw [if_neg hc]
    show I32 (if _ then _ else _)
    split
    · exact tu_i32 h
    · split
      · exact tl_i32 h
      · exact h
/-- What spec.first tells. -/
def fsR (u lw : Bool) (l : List UInt8) : List UInt8 × Int :=
  if validD l then (match rns l with
    | [] => ([], 1)
    | r :: rs => if (csR u lw r).2 = 1 then (encodeRune (csR u lw r).1 ++ enc rs, 1) else ([], 2)) else ([], 2)
theorem csR_two (u lw : Bool) (r : Int) : (csR u lw r).2 = 1 ∨ (csR u lw r).2 = 2 := by
  unfold csR
  cases cs u lw r
  · exact .inr rfl
  · exact .inl rfl

set_option maxHeartbeats 3200000 in
set_option maxRecDepth 100000 in
theorem sfirst_any (l : List UInt8) (u lw : Bool) (w : World) (hl : l.length ≤ 900000) (hT : Ft w) :
    Calls Tryd.prog 52 #[.string (txt l), .bool u, .bool lw] w fun e w' => e = .returned (.tuple #[.string (txt (fsR u lw l).1), .int .i64 (fsR u lw l).2]) ∧ Below w.heap.size w w' := by
  obtain ⟨F, hF⟩ : ∃ F, fsR u lw l = F := ⟨_, rfl⟩
  rw [hF]
  have hts := txt_size l
  cases hv : validD l with
  | false =>
    have HF : Hid (F = ([], 2)) := by show _ = _; rw [← hF]; unfold fsR; rw [hv]; rfl
    have CV := Lib.hid (settled1 (txt l) false w (by omega) (by rw [txt_list]; exact hv) hT)
    clear hF hv
    go_enter Tryd.func52, Tryd.ntmps52
    go_wp2_with fail
    refine CV.out.mono ?_
    rintro e w1 ⟨rfl, hb1⟩
    have HB1 := Lib.hid hb1
    clear hb1
    go_wp2
    go_ret2
    exact ⟨by rw [HF.out]; rfl, HB1.out⟩
  | true =>
  obtain ⟨rs, hs, he⟩ := text_chars (s := txt l) (by rw [txt_list]; exact hv)
  have CV := Lib.hid (settled1 (txt l) true w (by omega) (by rw [txt_list]; exact hv) hT)
  have hl2 : l = enc rs := by
    have := congrArg (fun s : ByteArray => s.data.toList) he
    simpa [txt_list] using this
  subst hl2
  unfold fsR at hF
  rw [hv, if_pos rfl, rns_enc rs hs] at hF
  clear hv he
  match rs, hs with
  | [], hs =>
    have HF : Hid (F = ([], 1)) := hF.symm
    have hee : ((txt (enc [])).toList == ([] : List UInt8)) = true := by rw [txt_toList]; rfl
    clear hF
    go_enter Tryd.func52, Tryd.ntmps52
    go_wp2_with fail
    refine CV.out.mono ?_
    rintro e w1 ⟨rfl, hb1⟩
    have HB1 := Lib.hid hb1
    clear hb1
    go_wp2
    go_ret2
    exact ⟨by rw [HF.out]; rfl, HB1.out⟩
  | r :: rs, hs =>
    have hee : ((txt (enc (r :: rs))).toList == ([] : List UInt8)) = false := by
      rw [txt_toList, enc_cons]
      exact beq_eq_false_iff_ne.2 (fun h => enc1_ne r (List.append_eq_nil_iff.1 h).1)
    have hrl : (r :: rs).length ≤ 1000000 := by have := enc_length_ge (r :: rs); omega
    have hri : I32 (r : Int) := hs.head.i32
    have CC := Lib.hid fun W (h : Ft W) => cased_any (r : Int) u lw W hri h
    obtain ⟨c, hc⟩ : ∃ c, csR u lw (r : Int) = c := ⟨_, rfl⟩
    have hF2 : F = if c.2 = 1 then (encodeRune c.1 ++ enc rs, 1) else ([], 2) := by rw [← hF, ← hc]
    have h12 := csR_two u lw r
    rw [hc] at CC h12
    obtain ⟨c1, c2⟩ := c
    have HF2 := Lib.hid hF2
    have HT := Lib.hid hT
    have HS := Lib.hid hs
    have hel : (enc rs).length ≤ 900000 := by rw [enc_cons, List.length_append] at hl; omega
    have hc1l := encR_le c1
    clear hF hF2 hc hT hs
    go_enter Tryd.func52, Tryd.ntmps52
    go_wp2_with fail
    refine CV.out.mono ?_
    rintro e w1 ⟨rfl, hb1⟩
    have HB1 := Lib.hid hb1
    clear hb1
    have hcv := run_text_runes w1 (r :: rs) HS.out hrl
    have HB2 := Lib.hid (runesWorld_below HB1.out HB1.out.size (r :: rs))
    have hcells := runesWorld_cell w1 (r :: rs)
    have h0 : (runesWorld w1 (r :: rs)).cell? ⟨w1.heap.size, 0, none⟩ = some (.int .i32 r) := by rw [hcells 0 (by simp)]; rfl
    have hlt : w1.heap.size < (runesWorld w1 (r :: rs)).heap.size := by rw [runesWorld_size]; omega
    have hcp := grownCap_ge w1 (r :: rs).length 0 21
    have HCELLS := Lib.hid hcells
    generalize runesWorld w1 (r :: rs) = w2 at *
    generalize grownCap w1 (r :: rs).length 0 21 = cap at *
    rw [List.length_cons] at hcp hcv
    have hge1 : (1 : Int) ≤ (rs.length : Int) + 1 := by omega
    have hq0 : (0 : Int) < (rs.length : Int) + 1 := by omega
    clear hcells
    go_wp2_with fail
    refine (CC.out _ (HT.out.below HB2.out)).mono ?_
    rintro e w3 ⟨rfl, hb3⟩
    have HB3 := Lib.hid (HB2.out.trans (hb3.mono HB2.out.size))
    have HC3 := Lib.hid (fun j (hj : j < (r :: rs).length) => (hb3.cell (p := ⟨w1.heap.size, j, none⟩) hlt).trans (HCELLS.out j hj))
    clear hb3 h0
    have htl := run_tail_text (w := w3) (g := w1.heap.size) (cap := cap) r rs HS.out hcp HC3.out
    rcases h12 with h | h
    · obtain rfl : c2 = 1 := h
      have HF : Hid (F = (encodeRune c1 ++ enc rs, 1)) := by show _ = _; rw [HF2.out]; rfl
      have hcat : ¬ 9223372036854775807 < (Utf8.encode c1).size + (txt (enc rs)).size := by rw [encode_any, txt_size, txt_size]; omega
      clear hcv HF2
      go_wp2
      all_goals
        go_ret2
        exact ⟨by rw [HF.out, ← txt_append, ← encode_any]; rfl, HB3.out⟩
    · obtain rfl : c2 = 2 := h
      have HF : Hid (F = ([], 2)) := by show _ = _; rw [HF2.out]; rfl
      clear hcv HF2
      go_wp2
      go_ret2
      exact ⟨by rw [HF.out]; rfl, HB3.out⟩

end Go.Proofs.YthanbbflemkomaaDoor
