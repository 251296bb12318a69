/- The plain part of the law FnAnyKind: words in eight styles, what strcase makes of them. No program is in sight. -/
import Derived.Test.YthanbbflemkomaaDoorCPlain
namespace Go.Proofs.YthanbbflemkomaaDoor
open Go.Lib U8

def joinA (sep : List UInt8) : List (List UInt8) → List UInt8
  | [] => []
  | x :: l => x ++ l.flatMap fun y => sep ++ y
theorem joinA_snoc (sep x : List UInt8) (l : List (List UInt8)) : joinA sep (l ++ [x]) = joinA sep l ++ (if l = [] then x else sep ++ x) := by
  cases l with
  | nil => simp [joinA]
  | cons y l => simp [joinA]
theorem joinA_nil (l : List (List UInt8)) : joinA [] l = l.flatten := by
  cases l with
  | nil => rfl
  | cons x l => simp [joinA, List.flatMap]
def tit : List UInt8 → List UInt8
  | [] => []
  | c :: r => toUp c :: r
/-- Words of at least two small letters. -/
def Nm (w : List UInt8) : Prop := 2 ≤ w.length ∧ ∀ b ∈ w, isLow b = true
def styA (l : List (List UInt8)) : Nat → List UInt8
  | 0 => joinA [95] l
  | 1 => (joinA [95] l).map toUp
  | 2 => joinA [45] l
  | 3 => (joinA [45] l).map toUp
  | 4 => joinA [32] l
  | 5 => joinA [46] l
  | 6 => joinA [] (l.map tit)
  | _ => l.headD [] ++ joinA [] (l.tail.map tit)

/-! ### bytes -/
theorem low_nat {b : UInt8} (h : isLow b = true) : 97 ≤ b.toNat ∧ b.toNat ≤ 122 := of_decide_eq_true h
theorem low_cap {b : UInt8} (h : isLow b = true) : isCap b = false := by have := low_nat h; unfold isCap; exact decide_eq_false (by omega)
theorem low_num {b : UInt8} (h : isLow b = true) : isNum b = false := by have := low_nat h; unfold isNum; exact decide_eq_false (by omega)
theorem low_sep {b : UInt8} (h : isLow b = true) : isSep b = false := by have := low_nat h; unfold isSep; exact decide_eq_false (by omega)
theorem up_nat {b : UInt8} (h : isLow b = true) : (toUp b).toNat = b.toNat - 32 := by rw [toUp_nat, if_pos (low_nat h)]
theorem up_cap {b : UInt8} (h : isLow b = true) : isCap (toUp b) = true := by have := low_nat h; unfold isCap; rw [up_nat h]; exact decide_eq_true (by omega)
theorem up_low {b : UInt8} (h : isLow b = true) : isLow (toUp b) = false := by have := low_nat h; unfold isLow; rw [up_nat h]; exact decide_eq_false (by omega)
theorem up_num {b : UInt8} (h : isLow b = true) : isNum (toUp b) = false := by have := low_nat h; unfold isNum; rw [up_nat h]; exact decide_eq_false (by omega)
theorem up_sep {b : UInt8} (h : isLow b = true) : isSep (toUp b) = false := by have := low_nat h; unfold isSep; rw [up_nat h]; exact decide_eq_false (by omega)
theorem up_up (b : UInt8) : toUp (toUp b) = toUp b := by
  apply UInt8.toNat_inj.1
  rw [toUp_nat, toUp_nat]
  repeat' split
  all_goals omega
theorem low_lo {b : UInt8} (h : isLow b = true) : toLo b = b := by
  apply UInt8.toNat_inj.1
  have := low_nat h
  rw [toLo_nat, if_neg (by omega)]
theorem lo_up {b : UInt8} (h : isLow b = true) : toLo (toUp b) = b := by rw [toLo_up, low_lo h]
theorem turn_up (scr : Bool) (b : UInt8) : turn scr (toUp b) = turn scr b := by
  cases scr
  · exact toLo_up b
  · exact up_up b
theorem sep_kinds {s : UInt8} (h : isSep s = true) : isCap s = false ∧ isLow s = false ∧ isNum s = false := by
  have h := of_decide_eq_true h
  exact ⟨decide_eq_false (by omega), decide_eq_false (by omega), decide_eq_false (by omega)⟩

/-! ### ToScreamingDelimited -/
section
variable {d : UInt8} {scr : Bool} {g : UInt8 → Bool} (hg : ∀ x, g x = false)
include hg
theorem delO_g (pr : Option UInt8) (b : UInt8) (nx : Option UInt8) : delO d scr g pr b nx = if bord b nx then (if isCap b && oLow nx && oCap pr then [d] else []) ++ turn scr b :: (if isLow b || isNum b || oNum nx then [d] else []) else if isSep b then [d] else [turn scr b] := by
  unfold delO
  cases pr <;> simp [hg]
theorem delO_low {b : UInt8} (h : isLow b = true) (pr nx : Option UInt8) (hn : oNum nx = false) : delO d scr g pr b nx = turn scr b :: (if oCap nx then [d] else []) := by
  rw [delO_g hg]
  unfold bord
  rw [low_cap h, h, low_num h, low_sep h, hn]
  cases hc : oCap nx <;> simp
theorem delO_cap {b : UInt8} (h : isLow b = true) (pr nx : Option UInt8) (hn : oNum nx = false) (hc : oCap pr = false ∨ oLow nx = false) : delO d scr g pr (toUp b) nx = [turn scr b] := by
  rw [delO_g hg]
  unfold bord
  rw [up_cap h, up_low h, up_num h, up_sep h, hn, turn_up]
  rcases hc with hc | hc <;> rw [hc] <;> cases oLow nx <;> simp
theorem delO_sep {s : UInt8} (h : isSep s = true) (pr nx : Option UInt8) : delO d scr g pr s nx = [d] := by
  obtain ⟨h1, h2, h3⟩ := sep_kinds h
  rw [delO_g hg]
  unfold bord
  rw [h1, h2, h3, h]
  simp
theorem blk_low : ∀ (w : List UInt8) (pr : Option UInt8) (r : List UInt8), w ≠ [] → (∀ b ∈ w, isLow b = true) → oNum r.head? = false → ∃ q, isLow q = true ∧
    del d scr g pr (w ++ r) = w.map (turn scr) ++ ((if oCap r.head? then [d] else []) ++ del d scr g (some q) r)
  | [], _, _, h0, _, _ => absurd rfl h0
  | [b], pr, r, _, h, hr => by
    refine ⟨b, h b (by simp), ?_⟩
    rw [List.singleton_append, del, delO_low hg (h b (by simp)) pr r.head? hr]
    simp
  | b :: b2 :: w, pr, r, _, h, hr => by
    obtain ⟨q, hq, e⟩ := blk_low (b2 :: w) (some b) r (by simp) (fun x hx => h x (by simp [hx])) hr
    refine ⟨q, hq, ?_⟩
    have h2 := h b2 (by simp)
    rw [List.cons_append, del, e, show ((b2 :: w) ++ r).head? = some b2 from rfl, delO_low hg (h b (by simp)) pr _ (show oNum (some b2) = false from low_num h2), show oCap (some b2) = false from low_cap h2]
    simp
theorem blk_cap : ∀ (w : List UInt8) (pr : Option UInt8) (r : List UInt8), w ≠ [] → (∀ b ∈ w, isLow b = true) → oNum r.head? = false → oLow r.head? = false → ∃ q,
    del d scr g pr (w.map toUp ++ r) = w.map (turn scr) ++ del d scr g (some q) r
  | [], _, _, h0, _, _, _ => absurd rfl h0
  | [b], pr, r, _, h, hr, hl => by
    refine ⟨toUp b, ?_⟩
    rw [List.map_singleton, List.singleton_append, del, delO_cap hg (h b (by simp)) pr r.head? hr (.inr hl)]
    simp
  | b :: b2 :: w, pr, r, _, h, hr, hl => by
    obtain ⟨q, e⟩ := blk_cap (b2 :: w) (some (toUp b)) r (by simp) (fun x hx => h x (by simp [hx])) hr hl
    refine ⟨q, ?_⟩
    have h2 := h b2 (by simp)
    rw [List.map_cons, List.cons_append, del, e, show (List.map toUp (b2 :: w) ++ r).head? = some (toUp b2) from rfl, delO_cap hg (h b (by simp)) pr _ (show oNum (some (toUp b2)) = false from up_num h2) (.inr (show oLow (some (toUp b2)) = false from up_low h2))]
    simp
theorem blk_tit (w : List UInt8) (hw : Nm w) (pr : Option UInt8) (hp : oCap pr = false) (r : List UInt8) (hr : oNum r.head? = false) : ∃ q, isLow q = true ∧
    del d scr g pr (tit w ++ r) = w.map (turn scr) ++ ((if oCap r.head? then [d] else []) ++ del d scr g (some q) r) := by
  obtain ⟨h2, hl⟩ := hw
  match w, h2, hl with
  | c :: c2 :: w, _, hl =>
    obtain ⟨q, hq, e⟩ := blk_low hg (d := d) (scr := scr) (c2 :: w) (some (toUp c)) r (by simp) (fun x hx => hl x (by simp [hx])) hr
    refine ⟨q, hq, ?_⟩
    have h2 := hl c2 (by simp)
    show del d scr g pr (toUp c :: ((c2 :: w) ++ r)) = _
    rw [del, e, show ((c2 :: w) ++ r).head? = some c2 from rfl, delO_cap hg (hl c (by simp)) pr _ (show oNum (some c2) = false from low_num h2) (.inl hp)]
    simp
omit hg in
theorem flat_head (s : UInt8) (f : List UInt8 → List UInt8) (l : List (List UInt8)) : (l.flatMap fun y => [s] ++ f y).head? = none ∨ (l.flatMap fun y => [s] ++ f y).head? = some s := by
  cases l with
  | nil => exact .inl rfl
  | cons x l => exact .inr rfl
theorem list_low {s : UInt8} (hs : isSep s = true) : ∀ (l : List (List UInt8)) (pr : Option UInt8), (∀ w ∈ l, Nm w) → del d scr g pr (l.flatMap fun y => [s] ++ y) = l.flatMap fun y => [d] ++ y.map (turn scr)
  | [], _, _ => rfl
  | w :: l, pr, h => by
    have hw := h w (by simp)
    obtain ⟨hc, hlw, hn⟩ := sep_kinds hs
    have hh := flat_head s id l
    obtain ⟨q, _, e⟩ := blk_low hg (d := d) (scr := scr) w (some s) (l.flatMap fun y => [s] ++ y) (by intro h0; rw [h0] at hw; exact absurd hw.1 (by simp)) hw.2 (by rcases hh with hh | hh <;> (have hh2 : (l.flatMap fun y => [s] ++ y).head? = _ := hh; rw [hh2]; first | rfl | exact hn))
    have hcp : oCap (l.flatMap fun y => [s] ++ y).head? = false := by rcases hh with hh | hh <;> (have hh2 : (l.flatMap fun y => [s] ++ y).head? = _ := hh; rw [hh2]; first | rfl | exact hc)
    rw [List.flatMap_cons, List.append_assoc, List.singleton_append, del, delO_sep hg hs, e, hcp, list_low hs l _ (fun x hx => h x (by simp [hx]))]
    simp
theorem list_cap {s : UInt8} (hs : isSep s = true) : ∀ (l : List (List UInt8)) (pr : Option UInt8), (∀ w ∈ l, Nm w) → del d scr g pr (l.flatMap fun y => [s] ++ y.map toUp) = l.flatMap fun y => [d] ++ y.map (turn scr)
  | [], _, _ => rfl
  | w :: l, pr, h => by
    have hw := h w (by simp)
    obtain ⟨hc, hlw, hn⟩ := sep_kinds hs
    have hh := flat_head s (List.map toUp) l
    obtain ⟨q, e⟩ := blk_cap hg (d := d) (scr := scr) w (some s) (l.flatMap fun y => [s] ++ y.map toUp) (by intro h0; rw [h0] at hw; exact absurd hw.1 (by simp)) hw.2 (by rcases hh with hh | hh <;> (rw [hh]; first | rfl | exact hn)) (by rcases hh with hh | hh <;> (rw [hh]; first | rfl | exact hlw))
    rw [List.flatMap_cons, List.append_assoc, List.singleton_append, del, delO_sep hg hs, e, list_cap hs l _ (fun x hx => h x (by simp [hx]))]
    simp
theorem list_tit : ∀ (l : List (List UInt8)) (pr : Option UInt8), oCap pr = false → (∀ w ∈ l, Nm w) → del d scr g pr (l.flatMap tit) = joinA [d] (l.map (List.map (turn scr)))
  | [], _, _, _ => rfl
  | [w], pr, hp, h => by
    obtain ⟨q, hq, e⟩ := blk_tit hg (d := d) (scr := scr) w (h w (by simp)) pr hp [] rfl
    rw [List.append_nil] at e
    rw [show [w].flatMap tit = tit w from by simp, e]
    simp [joinA, oCap, del]
  | w :: w2 :: l, pr, hp, h => by
    have hw2 := h w2 (by simp)
    obtain ⟨c, r, hcr, hcl⟩ : ∃ c r, w2 = c :: r ∧ isLow c = true := by
      obtain ⟨h1, h2⟩ := hw2
      match w2, h1, h2 with
      | c :: r, _, h2 => exact ⟨c, r, rfl, h2 c (by simp)⟩
    have hh : ((w2 :: l).flatMap tit).head? = some (toUp c) := by rw [hcr]; rfl
    obtain ⟨q, hq, e⟩ := blk_tit hg (d := d) (scr := scr) w (h w (by simp)) pr hp ((w2 :: l).flatMap tit) (by rw [hh]; exact up_num hcl)
    rw [List.flatMap_cons, e, hh, show oCap (some (toUp c)) = true from up_cap hcl, list_tit (w2 :: l) (some q) (low_cap hq) (fun x hx => h x (by simp [hx]))]
    simp [joinA]
/-- WHAT ToScreamingDelimited MAKES OF WORDS IN ANY OF THE EIGHT STYLES. -/
theorem del_sty (l : List (List UInt8)) (hl : l ≠ []) (h : ∀ w ∈ l, Nm w) (k : Nat) : del d scr g none (styA l k) = joinA [d] (l.map (List.map (turn scr))) := by
  match l, hl, h with
  | w :: l, _, h =>
    have hw := h w (by simp)
    have hl := fun x (hx : x ∈ l) => h x (List.mem_cons_of_mem _ hx)
    have hw0 : w ≠ [] := by intro h0; rw [h0] at hw; exact absurd hw.1 (by simp)
    have hlow : ∀ s : UInt8, isSep s = true → del d scr g none (joinA [s] (w :: l)) = joinA [d] ((w :: l).map (List.map (turn scr))) := fun s hs => by
      obtain ⟨hc, hlw, hn⟩ := sep_kinds hs
      have hh : (l.flatMap fun y => [s] ++ y).head? = none ∨ (l.flatMap fun y => [s] ++ y).head? = some s := flat_head s id l
      obtain ⟨q, _, e⟩ := blk_low hg (d := d) (scr := scr) w none (l.flatMap fun y => [s] ++ y) hw0 hw.2 (by rcases hh with hh | hh <;> (rw [hh]; first | rfl | exact hn))
      have hcp : oCap (l.flatMap fun y => [s] ++ y).head? = false := by rcases hh with hh | hh <;> (rw [hh]; first | rfl | exact hc)
      rw [joinA, e, hcp, list_low hg hs l _ hl]
      simp [joinA, List.flatMap_map]
    have hcap : ∀ s : UInt8, isSep s = true → toUp s = s → del d scr g none ((joinA [s] (w :: l)).map toUp) = joinA [d] ((w :: l).map (List.map (turn scr))) := fun s hs hu => by
      obtain ⟨hc, hlw, hn⟩ := sep_kinds hs
      have hh := flat_head s (List.map toUp) l
      obtain ⟨q, e⟩ := blk_cap hg (d := d) (scr := scr) w none (l.flatMap fun y => [s] ++ y.map toUp) hw0 hw.2 (by rcases hh with hh | hh <;> (rw [hh]; first | rfl | exact hn)) (by rcases hh with hh | hh <;> (rw [hh]; first | rfl | exact hlw))
      have hm : (joinA [s] (w :: l)).map toUp = w.map toUp ++ l.flatMap fun y => [s] ++ y.map toUp := by
        rw [joinA, List.map_append, List.map_flatMap]
        simp [hu]
      rw [hm, e, list_cap hg hs l _ hl]
      simp [joinA, List.flatMap_map]
    have ht : del d scr g none (joinA [] ((w :: l).map tit)) = joinA [d] ((w :: l).map (List.map (turn scr))) := by
      rw [joinA_nil, ← List.flatMap_def]
      exact list_tit hg (w :: l) none rfl h
    have h7 : del d scr g none (w ++ joinA [] (l.map tit)) = joinA [d] ((w :: l).map (List.map (turn scr))) := by
      rw [joinA_nil, ← List.flatMap_def]
      cases l with
      | nil =>
        obtain ⟨q, hq, e⟩ := blk_low hg (d := d) (scr := scr) w none [] hw0 hw.2 rfl
        rw [show ([] : List (List UInt8)).flatMap tit = [] from rfl, e]
        simp [joinA, oCap, del]
      | cons w2 l =>
        have hw2 := hl w2 (by simp)
        obtain ⟨c, r, hcr, hcl⟩ : ∃ c r, w2 = c :: r ∧ isLow c = true := by
          obtain ⟨h1, h2⟩ := hw2
          match w2, h1, h2 with
          | c :: r, _, h2 => exact ⟨c, r, rfl, h2 c (by simp)⟩
        have hh : ((w2 :: l).flatMap tit).head? = some (toUp c) := by rw [hcr]; rfl
        obtain ⟨q, hq, e⟩ := blk_low hg (d := d) (scr := scr) w none ((w2 :: l).flatMap tit) hw0 hw.2 (by rw [hh]; exact up_num hcl)
        rw [e, hh, show oCap (some (toUp c)) = true from up_cap hcl, list_tit hg (w2 :: l) (some q) (low_cap hq) hl]
        simp [joinA]
    match k with
    | 0 => exact hlow 95 (by decide)
    | 1 => exact hcap 95 (by decide) (by decide)
    | 2 => exact hlow 45 (by decide)
    | 3 => exact hcap 45 (by decide) (by decide)
    | 4 => exact hlow 32 (by decide)
    | 5 => exact hlow 46 (by decide)
    | 6 => exact ht
    | _ + 7 => exact h7
end

/-! ### ToCamel -/
theorem camN_low {b : UInt8} (h : isLow b = true) : camN b = false := by unfold camN; rw [h]; simp
theorem camN_up {b : UInt8} (h : isLow b = true) : camN (toUp b) = false := by unfold camN; rw [up_cap h]; simp
theorem camO_low {b : UInt8} (h : isLow b = true) (e : Bool) : camO false e b = [b] := by
  unfold camO isAln camV
  rw [h, low_lo h]
  simp
theorem camO_low1 {b : UInt8} (h : isLow b = true) (e : Bool) : camO true e b = [toUp b] := by
  unfold camO isAln camV
  rw [h]
  simp
theorem camO_up {b : UInt8} (h : isLow b = true) (cn e : Bool) : camO cn e (toUp b) = [if cn then toUp b else if e then b else toUp b] := by
  unfold camO isAln camV
  rw [up_cap h, up_up, lo_up h]
  simp
theorem cam_low : ∀ (w : List UInt8) (e : Bool) (r : List UInt8), w ≠ [] → (∀ b ∈ w, isLow b = true) → cam false e (w ++ r) = w ++ cam false false r
  | [], _, _, h0, _ => absurd rfl h0
  | [b], e, r, _, h => by
    have hb := h b (by simp)
    rw [List.singleton_append, cam, camO_low hb, camN_low hb, low_cap hb]
  | b :: b2 :: w, e, r, _, h => by
    have hb := h b (by simp)
    rw [List.cons_append, cam, camO_low hb, camN_low hb, low_cap hb, cam_low (b2 :: w) false r (by simp) (fun x hx => h x (by simp [hx]))]
    simp
theorem cam_first (w : List UInt8) (hw : Nm w) (e : Bool) (r : List UInt8) : cam true e (w ++ r) = tit w ++ cam false false r := by
  obtain ⟨h2, h⟩ := hw
  match w, h2, h with
  | c :: c2 :: w, _, h =>
    have hc := h c (by simp)
    rw [List.cons_append, cam, camO_low1 hc, camN_low hc, low_cap hc, cam_low (c2 :: w) false r (by simp) (fun x hx => h x (by simp [hx]))]
    simp [tit]
theorem cam_caps : ∀ (w : List UInt8) (r : List UInt8), (∀ b ∈ w, isLow b = true) → cam false true (w.map toUp ++ r) = w ++ cam false true r
  | [], _, _ => rfl
  | b :: w, r, h => by
    have hb := h b (by simp)
    rw [List.map_cons, List.cons_append, cam, camO_up hb, camN_up hb, up_cap hb, cam_caps w r (fun x hx => h x (by simp [hx]))]
    simp
theorem cam_cap1 (w : List UInt8) (hw : Nm w) (e : Bool) (r : List UInt8) : cam true e (w.map toUp ++ r) = tit w ++ cam false true r := by
  obtain ⟨h2, h⟩ := hw
  match w, h2, h with
  | c :: w, _, h =>
    have hc := h c (by simp)
    rw [List.map_cons, List.cons_append, cam, camO_up hc, camN_up hc, up_cap hc, cam_caps w r (fun x hx => h x (by simp [hx]))]
    simp [tit]
theorem cam_tit (w : List UInt8) (hw : Nm w) (cn e : Bool) (r : List UInt8) : cam cn e (tit w ++ r) = (if cn || !e then tit w else w) ++ cam false false r := by
  obtain ⟨h2, h⟩ := hw
  match w, h2, h with
  | c :: c2 :: w, _, h =>
    have hc := h c (by simp)
    show cam cn e (toUp c :: ((c2 :: w) ++ r)) = _
    rw [cam, camO_up hc, camN_up hc, up_cap hc, cam_low (c2 :: w) true r (by simp) (fun x hx => h x (by simp [hx]))]
    cases cn <;> cases e <;> simp [tit]
theorem cam_sep {s : UInt8} (hs : isSep s = true) (cn e : Bool) (r : List UInt8) : cam cn e (s :: r) = cam true false r := by
  obtain ⟨h1, h2, h3⟩ := sep_kinds hs
  rw [cam]
  unfold camO isAln camN
  rw [h1, h2, h3, hs]
  simp
theorem clist_low {s : UInt8} (hs : isSep s = true) : ∀ (l : List (List UInt8)) (cn e : Bool), (∀ w ∈ l, Nm w) → cam cn e (l.flatMap fun y => [s] ++ y) = l.flatMap tit
  | [], _, _, _ => rfl
  | w :: l, cn, e, h => by
    rw [List.flatMap_cons, List.append_assoc, List.singleton_append, cam_sep hs, cam_first w (h w (by simp)), clist_low hs l _ _ (fun x hx => h x (by simp [hx]))]
    rfl
theorem clist_cap {s : UInt8} (hs : isSep s = true) : ∀ (l : List (List UInt8)) (cn e : Bool), (∀ w ∈ l, Nm w) → cam cn e (l.flatMap fun y => [s] ++ y.map toUp) = l.flatMap tit
  | [], _, _, _ => rfl
  | w :: l, cn, e, h => by
    rw [List.flatMap_cons, List.append_assoc, List.singleton_append, cam_sep hs, cam_cap1 w (h w (by simp)), clist_cap hs l _ _ (fun x hx => h x (by simp [hx]))]
    rfl
theorem clist_tit : ∀ (l : List (List UInt8)), (∀ w ∈ l, Nm w) → cam false false (l.flatMap tit) = l.flatMap tit
  | [], _ => rfl
  | w :: l, h => by
    rw [List.flatMap_cons, cam_tit w (h w (by simp)), clist_tit l (fun x hx => h x (by simp [hx]))]
    rfl
/-- WHAT ToCamel (great) AND ToLowerCamel MAKE OF WORDS IN ANY OF THE EIGHT STYLES. -/
theorem cam_sty (l : List (List UInt8)) (hl : l ≠ []) (h : ∀ w ∈ l, Nm w) (great : Bool) (k : Nat) : cam great true (styA l k) = if great then styA l 6 else styA l 7 := by
  match l, hl, h with
  | w :: l, _, h =>
    have hw := h w (by simp)
    have hl := fun x (hx : x ∈ l) => h x (List.mem_cons_of_mem _ hx)
    have hw0 : w ≠ [] := by intro h0; rw [h0] at hw; exact absurd hw.1 (by simp)
    have hgoal : (if great then styA (w :: l) 6 else styA (w :: l) 7) = (if great then tit w else w) ++ l.flatMap tit := by
      unfold styA
      rw [joinA_nil, joinA_nil, ← List.flatMap_def, ← List.flatMap_def]
      cases great <;> rfl
    rw [hgoal]
    have hlow : ∀ s : UInt8, isSep s = true → cam great true (joinA [s] (w :: l)) = (if great then tit w else w) ++ l.flatMap tit := fun s hs => by
      rw [joinA]
      cases great with
      | true => rw [cam_first w hw, clist_low hs l _ _ hl]; rfl
      | false => rw [cam_low w true _ hw0 hw.2, clist_low hs l _ _ hl]; rfl
    have hcap : ∀ s : UInt8, isSep s = true → toUp s = s → cam great true ((joinA [s] (w :: l)).map toUp) = (if great then tit w else w) ++ l.flatMap tit := fun s hs hu => by
      have hm : (joinA [s] (w :: l)).map toUp = w.map toUp ++ l.flatMap fun y => [s] ++ y.map toUp := by
        rw [joinA, List.map_append, List.map_flatMap]
        simp [hu]
      rw [hm]
      cases great with
      | true => rw [cam_cap1 w hw, clist_cap hs l _ _ hl]; rfl
      | false => rw [cam_caps w _ hw.2, clist_cap hs l _ _ hl]; rfl
    have h6 : cam great true (joinA [] ((w :: l).map tit)) = (if great then tit w else w) ++ l.flatMap tit := by
      rw [joinA_nil, ← List.flatMap_def, List.flatMap_cons, cam_tit w hw, clist_tit l hl]
      cases great <;> rfl
    have h7 : cam great true (w ++ joinA [] (l.map tit)) = (if great then tit w else w) ++ l.flatMap tit := by
      rw [joinA_nil, ← List.flatMap_def]
      cases great with
      | true => rw [cam_first w hw, clist_tit l hl]; rfl
      | false => rw [cam_low w true _ hw0 hw.2, clist_tit l hl]; rfl
    match k with
    | 0 => exact hlow 95 (by decide)
    | 1 => exact hcap 95 (by decide) (by decide)
    | 2 => exact hlow 45 (by decide)
    | 3 => exact hcap 45 (by decide) (by decide)
    | 4 => exact hlow 32 (by decide)
    | 5 => exact hlow 46 (by decide)
    | 6 => exact h6
    | _ + 7 => exact h7

/-! ### no blanks at the ends; sizes -/
theorem not_sp {b : UInt8} (h : isLow b = true) : Lib.isSp b = false ∧ Lib.isSp (toUp b) = false := by
  have hb : ((List.range 256).all fun n => !(isLow n.toUInt8) || (!(Lib.isSp n.toUInt8) && !(Lib.isSp (toUp n.toUInt8)))) = true := by kernel_rfl
  have h1 := List.all_eq_true.1 hb b.toNat (List.mem_range.2 b.toNat_lt)
  have e : b.toNat.toUInt8 = b := UInt8.toNat_inj.1 (u8n b.toNat_lt)
  rw [e, h] at h1
  simpa using h1
theorem trim_id {c : UInt8} {l p : List UInt8} {q : UInt8} (h1 : l.head? = some c) (hc : Lib.isSp c = false) (h2 : l = p ++ [q]) (hq : Lib.isSp q = false) : trimSpace l = l := by
  unfold trimSpace
  cases l with
  | nil => cases h1
  | cons b l =>
    obtain rfl : b = c := by simpa using h1
    rw [List.dropWhile_cons_of_neg (by simp [hc]), h2, List.reverse_append, List.reverse_singleton, List.singleton_append, List.dropWhile_cons_of_neg (by simp [hq])]
    simp
theorem nm_ends {w : List UInt8} (h : Nm w) : (∃ c r, w = c :: r ∧ isLow c = true) ∧ ∃ p q, w = p ++ [q] ∧ isLow q = true ∧ p ≠ [] := by
  obtain ⟨h2, hl⟩ := h
  refine ⟨?_, ?_⟩
  · match w, h2, hl with
    | c :: r, _, hl => exact ⟨c, r, rfl, hl c (by simp)⟩
  · rcases List.eq_nil_or_concat w with rfl | ⟨p, q, e⟩
    · simp at h2
    · rw [List.concat_eq_append] at e
      subst e
      refine ⟨p, q, rfl, hl q (by simp), ?_⟩
      rintro rfl
      simp at h2

end Go.Proofs.YthanbbflemkomaaDoor
