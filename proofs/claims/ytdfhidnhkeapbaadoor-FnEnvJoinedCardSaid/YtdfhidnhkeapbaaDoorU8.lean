/- Plain lemmas on UTF-8: a text that is valid is the code of a list of characters; the first character of such a code is decoded. No program is in sight. -/
import Derived.Lib.MapLaws
import Derived.Lib.ValidLaws
import Derived.Lib.ValidAsc
import Derived.Lib.RuneCount
namespace Go.Proofs.YtdfhidnhkeapbaaDoor.U8
open Go.Lib

/-- A character: no surrogate, not too great. -/
def Sc (r : Nat) : Prop := r < 55296 ∨ (57344 ≤ r ∧ r ≤ 1114111)
instance (r : Nat) : Decidable (Sc r) := by unfold Sc; infer_instance
def Scs (rs : List Nat) : Prop := ∀ r ∈ rs, Sc r

def enc1 (r : Nat) : List UInt8 := encodeRune (r : Int)
def enc (rs : List Nat) : List UInt8 := rs.flatMap enc1

theorem enc_nil : enc [] = [] := rfl
theorem enc_cons (r : Nat) (rs : List Nat) : enc (r :: rs) = enc1 r ++ enc rs := rfl
theorem enc_append (a b : List Nat) : enc (a ++ b) = enc a ++ enc b := by simp [enc]
theorem enc_one (r : Nat) : enc [r] = enc1 r := by simp [enc]

instance (rs : List Nat) : Decidable (Scs rs) := by unfold Scs; infer_instance
theorem Scs.nil : Scs [] := fun _ h => by cases h
theorem Scs.cons {r : Nat} {rs : List Nat} (h : Sc r) (k : Scs rs) : Scs (r :: rs) := fun x hx => by
  rcases List.mem_cons.1 hx with rfl | hx
  · exact h
  · exact k x hx
theorem Scs.head {r : Nat} {rs : List Nat} (h : Scs (r :: rs)) : Sc r := h r (by simp)
theorem Scs.tail {r : Nat} {rs : List Nat} (h : Scs (r :: rs)) : Scs rs := fun x hx => h x (by simp [hx])
theorem Scs.app {a b : List Nat} (h : Scs a) (k : Scs b) : Scs (a ++ b) := fun x hx => by
  rcases List.mem_append.1 hx with hx | hx
  · exact h x hx
  · exact k x hx
theorem Scs.left {a b : List Nat} (h : Scs (a ++ b)) : Scs a := fun x hx => h x (by simp [hx])
theorem Scs.right {a b : List Nat} (h : Scs (a ++ b)) : Scs b := fun x hx => h x (by simp [hx])
theorem Scs.rev {a : List Nat} (h : Scs a) : Scs a.reverse := fun x hx => h x (by simpa using hx)
theorem Scs.drop {a : List Nat} (h : Scs a) (n : Nat) : Scs (a.drop n) := fun x hx => h x (List.mem_of_mem_drop hx)
theorem Scs.take {a : List Nat} (h : Scs a) (n : Nat) : Scs (a.take n) := fun x hx => h x (List.mem_of_mem_take hx)

theorem ofNat_toNat {n : Nat} (h : n < 256) : ((n : Int).toNat.toUInt8).toNat = n := by
  have e : (n : Int).toNat = n := by omega
  rw [e]
  show n % 256 = n
  omega
theorem byte_of {z : Int} {n : Nat} (e : z = (n : Int)) (h : n < 256) : (z.toNat.toUInt8).toNat = n := by subst e; exact ofNat_toNat h

theorem enc1_a {r : Nat} (h : r < 128) : enc1 r = [(r : Int).toNat.toUInt8] := by
  unfold enc1 encodeRune
  rw [encodeRuneZ_one (by omega) (by omega)]; rfl
theorem enc1_b {r : Nat} (h0 : 128 ≤ r) (h1 : r < 2048) : enc1 r = [(192 + (r : Int) / 64).toNat.toUInt8, (128 + (r : Int) % 64).toNat.toUInt8] := by
  unfold enc1 encodeRune
  rw [encodeRuneZ_two (by omega) (by omega)]; rfl
theorem enc1_c {r : Nat} (h : (2048 ≤ r ∧ r < 55296) ∨ (57344 ≤ r ∧ r < 65536)) : enc1 r = [(224 + (r : Int) / 4096).toNat.toUInt8, (128 + (r : Int) / 64 % 64).toNat.toUInt8, (128 + (r : Int) % 64).toNat.toUInt8] := by
  unfold enc1 encodeRune
  rw [encodeRuneZ_three (by omega)]; rfl
theorem enc1_d {r : Nat} (h0 : 65536 ≤ r) (h1 : r ≤ 1114111) : enc1 r = [(240 + (r : Int) / 262144).toNat.toUInt8, (128 + (r : Int) / 4096 % 64).toNat.toUInt8, (128 + (r : Int) / 64 % 64).toNat.toUInt8, (128 + (r : Int) % 64).toNat.toUInt8] := by
  unfold enc1 encodeRune
  rw [encodeRuneZ_four (by omega) (by omega)]; rfl

theorem enc1_pos (r : Nat) : 1 ≤ (enc1 r).length := by unfold enc1 encodeRune; rw [List.length_map]; exact (encodeRuneZ_length _).1
theorem enc1_le (r : Nat) : (enc1 r).length ≤ 4 := by unfold enc1 encodeRune; rw [List.length_map]; exact (encodeRuneZ_length _).2
theorem enc1_ne (r : Nat) : enc1 r ≠ [] := fun h => by have := enc1_pos r; rw [h] at this; simp at this

/-- WHAT STANDS AHEAD IS DECODED. -/
theorem decode_enc1 (r : Nat) (h : Sc r) (t : List UInt8) : decodeL (enc1 r ++ t) = (r, (enc1 r).length) := by
  unfold Sc at h
  rw [decodeL_N]
  by_cases a : r < 128
  · rw [enc1_a a]
    have e0 : (r : Int).toNat.toUInt8.toNat = r := byte_of rfl (by omega)
    simp only [List.cons_append, List.nil_append, List.getD_cons_zero, List.length_cons, e0]
    exact decodeN_ascii _ _ _ _ _ a
  by_cases b : r < 2048
  · rw [enc1_b (by omega) b]
    have e0 : (192 + (r : Int) / 64).toNat.toUInt8.toNat = 192 + r / 64 := byte_of (by omega) (by omega)
    have e1 : (128 + (r : Int) % 64).toNat.toUInt8.toNat = 128 + r % 64 := byte_of (by omega) (by omega)
    simp only [List.cons_append, List.nil_append, List.getD_cons_zero, List.getD_cons_succ, List.length_cons, e0, e1]
    unfold decodeN
    rw [if_neg (by omega), if_pos ⟨by omega, by omega, by omega⟩, if_pos (by omega)]
    apply Prod.ext <;> simp only <;> (simp; try omega)
  by_cases c : r < 65536
  · rw [enc1_c (by omega)]
    have e0 : (224 + (r : Int) / 4096).toNat.toUInt8.toNat = 224 + r / 4096 := byte_of (by omega) (by omega)
    have e1 : (128 + (r : Int) / 64 % 64).toNat.toUInt8.toNat = 128 + r / 64 % 64 := byte_of (by omega) (by omega)
    have e2 : (128 + (r : Int) % 64).toNat.toUInt8.toNat = 128 + r % 64 := byte_of (by omega) (by omega)
    simp only [List.cons_append, List.nil_append, List.getD_cons_zero, List.getD_cons_succ, List.length_cons, e0, e1, e2]
    unfold decodeN
    rw [if_neg (by omega), if_neg (by omega), if_pos ⟨by omega, ⟨by omega, by omega⟩, by omega, by omega⟩, if_pos (by omega)]
    apply Prod.ext <;> simp only <;> (simp; try omega)
  · rw [enc1_d (by omega) (by omega)]
    have e0 : (240 + (r : Int) / 262144).toNat.toUInt8.toNat = 240 + r / 262144 := byte_of (by omega) (by omega)
    have e1 : (128 + (r : Int) / 4096 % 64).toNat.toUInt8.toNat = 128 + r / 4096 % 64 := byte_of (by omega) (by omega)
    have e2 : (128 + (r : Int) / 64 % 64).toNat.toUInt8.toNat = 128 + r / 64 % 64 := byte_of (by omega) (by omega)
    have e3 : (128 + (r : Int) % 64).toNat.toUInt8.toNat = 128 + r % 64 := byte_of (by omega) (by omega)
    simp only [List.cons_append, List.nil_append, List.getD_cons_zero, List.getD_cons_succ, List.length_cons, e0, e1, e2, e3]
    unfold decodeN
    rw [if_neg (by omega), if_neg (by omega), if_neg (by omega), if_pos ⟨by omega, ⟨by omega, by omega⟩, ⟨by omega, by omega⟩, by omega, by omega⟩, if_pos (by omega)]
    apply Prod.ext <;> simp only <;> (simp; try omega)

theorem decode_enc (r : Nat) (rs : List Nat) (h : Sc r) : decodeL (enc (r :: rs)) = (r, (enc1 r).length) := decode_enc1 r h _

/-- A decoded character is one. -/
theorem decode_sc (l : List UInt8) : Sc (decodeL l).1 := by
  rw [decodeL_N]
  have k0 := (l.getD 0 0).toNat_lt
  unfold Sc
  rcases decodeN_shape l.length (l.getD 0 0).toNat (l.getD 1 0).toNat (l.getD 2 0).toNat (l.getD 3 0).toNat with ⟨c, e⟩ | ⟨c1, c2, c3, cv, e⟩ | ⟨c1, c2, c3, c4, cv, cs, e⟩ | ⟨c1, c2, c3, c4, c5, cv, cw, e⟩ | e <;> rw [e] <;> simp only <;> omega

/-- Only U+FFFD's own three bytes give U+FFFD with a width of three. -/
theorem enc1_fffd : (enc1 65533).length = 3 := by decide

theorem valid_enc : ∀ rs : List Nat, Scs rs → validD (enc rs) = true
  | [], _ => rfl
  | r :: rs, h => by
    have hne : enc (r :: rs) ≠ [] := by rw [enc_cons]; simp [enc1_ne]
    rw [validD_step _ hne, decode_enc r rs h.head, if_neg, enc_cons, List.drop_left]
    · exact valid_enc rs h.tail
    · rintro ⟨rfl, h2⟩
      rw [enc1_fffd] at h2
      omega

/-- A VALID TEXT IS THE CODE OF CHARACTERS. -/
theorem enc_of_valid (n : Nat) : ∀ l : List UInt8, l.length ≤ n → validD l = true → ∃ rs, Scs rs ∧ enc rs = l := by
  induction n with
  | zero =>
    intro l hl _
    have : l = [] := List.eq_nil_of_length_eq_zero (by omega)
    exact ⟨[], Scs.nil, by rw [this]; rfl⟩
  | succ n ih =>
    intro l hl hv
    by_cases hne : l = []
    · exact ⟨[], Scs.nil, by rw [hne]; rfl⟩
    · rw [validD_step l hne] at hv
      by_cases hb : (decodeL l).1 = 65533 ∧ (decodeL l).2 = 1
      · rw [if_pos hb] at hv; cases hv
      · rw [if_neg hb] at hv
        have hw := decodeL_width l
        have hl0 : 0 < l.length := List.length_pos_iff.2 hne
        obtain ⟨rs, h1, h2⟩ := ih (l.drop (decodeL l).2) (by rw [List.length_drop]; omega) hv
        refine ⟨(decodeL l).1 :: rs, Scs.cons (decode_sc l) h1, ?_⟩
        rw [enc_cons, h2]
        have := encode_decode l hne hb
        unfold enc1
        rw [this, List.take_append_drop]

theorem chars_of {l : List UInt8} (h : validD l = true) : ∃ rs, Scs rs ∧ enc rs = l := enc_of_valid l.length l (Nat.le_refl _) h

/-- One text, one list of characters. -/
theorem enc_inj : ∀ a b : List Nat, Scs a → Scs b → enc a = enc b → a = b
  | [], [], _, _, _ => rfl
  | [], r :: rs, _, _, h => by
    have h1 := congrArg List.length h
    rw [enc_cons, List.length_append, enc_nil, List.length_nil] at h1
    have := enc1_pos r
    omega
  | r :: rs, [], _, _, h => by
    have h1 := congrArg List.length h
    rw [enc_cons, List.length_append, enc_nil, List.length_nil] at h1
    have := enc1_pos r
    omega
  | r :: rs, q :: qs, ha, hb, h => by
    have h1 := decode_enc r rs ha.head
    have h2 := decode_enc q qs hb.head
    rw [h, h2] at h1
    have e : q = r := congrArg Prod.fst h1
    subst e
    rw [enc_cons, enc_cons] at h
    rw [enc_inj rs qs ha.tail hb.tail (List.append_cancel_left h)]

theorem enc_length_ge : ∀ rs : List Nat, rs.length ≤ (enc rs).length
  | [] => Nat.le_refl _
  | r :: rs => by
    have := enc_length_ge rs
    have := enc1_pos r
    rw [enc_cons, List.length_append, List.length_cons]; omega
theorem enc_length_le : ∀ rs : List Nat, (enc rs).length ≤ 4 * rs.length
  | [] => Nat.le_refl _
  | r :: rs => by
    have := enc_length_le rs
    have := enc1_le r
    rw [enc_cons, List.length_append, List.length_cons]; omega

/-- Texts as byte arrays. -/
def txt (l : List UInt8) : ByteArray := ⟨l.toArray⟩
theorem txt_list (l : List UInt8) : (txt l).data.toList = l := by simp [txt]
theorem list_txt (s : ByteArray) : txt s.data.toList = s := by cases s; simp [txt]
theorem txt_size (l : List UInt8) : (txt l).size = l.length := by simp [txt, ByteArray.size]
theorem txt_inj {a b : List UInt8} (h : txt a = txt b) : a = b := by rw [← txt_list a, h, txt_list]
theorem txt_toList (l : List UInt8) : (txt l).toList = l := by rw [Go.Lib.toList_data, txt_list]
theorem size_list (s : ByteArray) : s.size = s.data.toList.length := Go.Lib.size_eq s

theorem text_chars {s : ByteArray} (h : validD s.data.toList = true) : ∃ rs, Scs rs ∧ s = txt (enc rs) := by
  obtain ⟨rs, h1, h2⟩ := chars_of h
  exact ⟨rs, h1, by rw [h2, list_txt]⟩

theorem txt_append (a b : List UInt8) : txt a ++ txt b = txt (a ++ b) := by
  apply ByteArray.ext
  simp [txt]
theorem txt_extract (l : List UInt8) (i j : Nat) : (txt l).extract i j = txt ((l.take j).drop i) := by
  rw [← list_txt ((txt l).extract i j)]
  congr 1
  rw [Go.Lib.extract_data, txt_list, List.drop_take]
theorem txt_skip (a b : List UInt8) : (txt (a ++ b)).extract a.length (txt (a ++ b)).size = txt b := by
  rw [← list_txt ((txt (a ++ b)).extract _ _)]
  congr 1
  rw [ext_list, txt_list, List.drop_left]
theorem txt_take (a b : List UInt8) : (txt (a ++ b)).extract 0 a.length = txt a := by
  rw [← list_txt ((txt (a ++ b)).extract _ _)]
  congr 1
  rw [Go.Lib.extract_data, txt_list]
  simp

/-- How many characters the count tells. -/
theorem decode_txt (rs qs : List Nat) (r : Nat) (h : Sc r) : Utf8.decode (txt (enc (rs ++ r :: qs))) (enc rs).length = (r, (enc1 r).length) := by
  rw [← decodeL_drop, txt_list, enc_append, List.drop_left]
  exact decode_enc r qs h
theorem count_from (rs : List Nat) : ∀ (qs : List Nat) (fuel : Nat), Scs qs → (enc qs).length ≤ fuel → runeCountFrom (txt (enc (rs ++ qs))) fuel (enc rs).length = qs.length := by
  intro qs
  induction qs generalizing rs with
  | nil =>
    intro fuel _ _
    apply runeCountFrom_end
    rw [txt_size, List.append_nil]
    omega
  | cons r qs ih =>
    intro fuel h hf
    have hp := enc1_pos r
    rw [enc_cons, List.length_append] at hf
    obtain ⟨f, rfl⟩ : ∃ f, fuel = f + 1 := ⟨fuel - 1, by omega⟩
    unfold runeCountFrom
    rw [if_pos (by rw [txt_size, enc_append, List.length_append, enc_cons, List.length_append]; omega), decode_txt rs qs r h.head]
    have e : (enc rs).length + (enc1 r).length = (enc (rs ++ [r])).length := by rw [enc_append, List.length_append, enc_one]
    have := ih (rs ++ [r]) f h.tail (by omega)
    rw [List.append_assoc] at this
    show 1 + runeCountFrom _ f ((enc rs).length + (enc1 r).length) = _
    rw [e]
    simp only [List.cons_append, List.nil_append] at this
    rw [this]
    simp; omega
theorem count_txt (rs : List Nat) (h : Scs rs) : runeCount (txt (enc rs)) = rs.length := by
  unfold runeCount
  exact count_from [] rs _ h (by rw [txt_size]; exact Nat.le_refl _)

end Go.Proofs.YtdfhidnhkeapbaaDoor.U8
