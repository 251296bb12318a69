/- Plain laws of a translator: what becomes of a text of characters, how many match. No program is in sight. -/
import Derived.Test.YtbomlhhpokknaaaDoorTrPlain
namespace Go.Proofs.YtbomlhhpokknaaaDoor
open Go.Lib U8

theorem pcs_enc : ∀ rs : List Nat, Scs rs → pcs (enc rs) = rs.map fun r => (enc1 r, r)
  | [], _ => rfl
  | r :: rs, h => by
    rw [enc_cons, pcs_cons (enc1 r) (enc rs) r (enc1_ne r) (decode_enc r rs h.head), pcs_enc rs h.tail]; rfl
theorem text_map (X : Tx) (φ : Nat → Nat) (rs : List Nat) (hs : Scs rs) (hh : X.has = true) (hd : X.del = false) (h1 : ∀ r ∈ rs, X.hit r = true → (X.trans r).1 = (φ r : Int)) (h2 : ∀ r ∈ rs, X.hit r = false → φ r = r) : X.text (enc rs) = enc (rs.map φ) := by
  unfold Tx.text
  rw [hh, if_pos rfl, pcs_enc rs hs, List.flatMap_map]
  clear hs
  induction rs with
  | nil => rfl
  | cons r rs ih =>
    rw [List.flatMap_cons, List.map_cons, enc_cons, ih (fun x hx => h1 x (by simp [hx])) (fun x hx => h2 x (by simp [hx]))]
    congr 1
    unfold Tx.piece
    dsimp only
    rw [hd, Bool.and_false]
    simp only [Bool.false_eq_true, if_false]
    cases hh : X.hit r with
    | true => rw [if_pos rfl, h1 r (by simp) hh]; rfl
    | false => rw [if_neg (by simp), h2 r (by simp) hh]
theorem text_del (X : Tx) (rs : List Nat) (hs : Scs rs) (hh : X.has = true) (hd : X.del = true) : X.text (enc rs) = enc (rs.filter fun (r : Nat) => !X.hit r) := by
  unfold Tx.text
  rw [hh, if_pos rfl, pcs_enc rs hs, List.flatMap_map]
  clear hs
  induction rs with
  | nil => rfl
  | cons r rs ih =>
    rw [List.flatMap_cons, ih, List.filter_cons]
    unfold Tx.piece
    dsimp only
    rw [hd, Bool.and_true]
    cases hh : X.hit r with
    | true => simp
    | false => simp [enc_cons]
theorem count_enc (X : Tx) (rs : List Nat) (hs : Scs rs) : X.count (enc rs) = rs.countP fun (r : Nat) => X.hit r := by
  unfold Tx.count
  rw [pcs_enc rs hs, List.countP_map]
  rfl
theorem scs_filter {rs : List Nat} (h : Scs rs) (p : Nat → Bool) : Scs (rs.filter p) := fun r hr => h r (List.mem_filter.1 hr).1
theorem enc_filter_len (rs : List Nat) (p : Nat → Bool) : (enc (rs.filter p)).length ≤ (enc rs).length := by
  induction rs with
  | nil => simp
  | cons r rs ih =>
    rw [List.filter_cons]
    split
    · rw [enc_cons, enc_cons, List.length_append, List.length_append]; omega
    · rw [enc_cons, List.length_append]; omega
theorem countP_not (rs : List Nat) (p : Nat → Bool) : rs.countP p + rs.countP (fun r => !p r) = rs.length := by
  induction rs with
  | nil => rfl
  | cons r rs ih =>
    rw [List.countP_cons, List.countP_cons, List.length_cons]
    cases p r <;> simp <;> omega

/-- A list without '^' ahead, and with one: one matches what the other does not. -/
theorem parts_hit (L : List UInt8) (hne : L ≠ []) (hr : isRev L = false) (r : Int) : (newTr (94 :: L) []).hit r = !(newTr L []).hit r := by
  have e1 : newTr L [] = ⟨(final (outer L.length Tr.nil (cu0 false []) (-1) L)).1, (final (outer L.length Tr.nil (cu0 false []) (-1) L)).2.st, false, true, true⟩ := by
    unfold newTr
    rw [if_neg hne, hr]
    simp
  have e2 : newTr (94 :: L) [] = ⟨(final (outer L.length Tr.nil (cu0 true []) (-1) L)).1, (final (outer L.length Tr.nil (cu0 true []) (-1) L)).2.st, true, true, true⟩ := by
    unfold newTr
    rw [if_neg (by simp), show isRev (94 :: L) = true from rfl]
    simp
  have e3 : cu0 true [] = cu0 false [] := by unfold cu0; rw [if_pos rfl, if_pos rfl]
  rw [e1, e2, e3]
  unfold Tx.hit
  simp
theorem parts_has (L : List UInt8) (hne : L ≠ []) : (newTr L []).has = true ∧ (newTr L []).del = true := by
  unfold newTr
  rw [if_neg hne]
  exact ⟨rfl, rfl⟩

end Go.Proofs.YtbomlhhpokknaaaDoor
