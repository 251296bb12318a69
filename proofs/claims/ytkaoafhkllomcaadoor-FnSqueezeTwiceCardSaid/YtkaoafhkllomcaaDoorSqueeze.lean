/- The contract of Squeeze without a pattern, at texts that are valid. -/
import Derived.Test.YtkaoafhkllomcaaDoorPRev
import Derived.Test.YtkaoafhkllomcaaDoorSqPlain
namespace Go.Proofs.YtkaoafhkllomcaaDoor
open Go.RowKit U8
open Go.Lib hiding intOf

/-- The bytes of the one ahead. -/
def lbT : Option Nat → ByteArray
  | none => txt []
  | some x => txt (enc1 x)
theorem sc_none : Hid (∀ x, (none : Option Nat) = some x → Sc x) := by
  show ∀ x, _
  intro x h
  cases h
theorem sc_some {r : Nat} (hr : Sc r) : Hid (∀ x, some r = some x → Sc x) := by
  show ∀ x, _
  intro x h
  cases h
  exact hr

set_option maxHeartbeats 3200000 in
set_option maxRecDepth 100000 in
theorem squeeze_any (rs : List Nat) (w : World) (hs : Scs rs) (hl : (enc rs).length ≤ 100000) (hT : Tabs w) :
    Calls Tryd.prog 65 #[.string (txt (enc rs)), .string ⟨#[]⟩] w fun e w' => e = .returned (.string (txt (enc (sq none rs)))) ∧ Below w.heap.size w w' := by
  obtain ⟨Q, hQ⟩ : ∃ Q, sq none rs = Q := ⟨_, rfl⟩
  have hQl := sq_len none rs
  rw [hQ] at hQl ⊢
  have HQ := Lib.hid hQ.symm
  clear hQ
  have hlr := enc_length_ge rs
  go_enter Tryd.func65, Tryd.ntmps65
  go_wp2
  go_loopg [0, 6, 8, 11] (rs.length + 1) (fun gk s lb sk out wr => ∃ (p rest q : List Nat) (o : Option Nat), Hid (rs = p ++ rest) ∧ s = .string (txt (enc rest)) ∧ lb = .string (lbT o) ∧ sk = .bool false ∧ rest.length < gk ∧ Below w.heap.size w wr ∧ Hid (Q = q ++ sq o rest) ∧ Hid (∀ x, o = some x → Sc x) ∧ Scs rest ∧
    ((out = .pointer none ∧ Hid (q = p)) ∨ (∃ b, out = .pointer (some ⟨b, 0, none⟩) ∧ Hid (Bld w.heap.size b (enc q) wr))))
  case atStart => exact ⟨[], rs, [], none, rfl, rfl, rfl, rfl, by omega, Below.refl _ _, HQ.out, sc_none, hs, .inl ⟨rfl, rfl⟩⟩
  case round =>
    obtain ⟨p, rest, q, o, HR, rfl, rfl, rfl, hg, hb, HO, HS, hsr, hst⟩ := hrel
    have hbs := hb.size
    cases rest with
    | nil =>
      have h0 : (txt (enc [])).size ≤ 0 := Nat.le_refl _
      have e := HO.out
      rw [sq, List.append_nil] at e
      rcases hst with ⟨rfl, hqp⟩ | ⟨b, rfl, hbl⟩
      · have e2 := HR.out
        rw [List.append_nil] at e2
        have HE : Hid (Q = rs) := by show _ = _; rw [e, hqp.out, e2]
        clear e e2
        go_wp2
        go_ret
        exact ⟨by rw [HE.out]; rfl, hb⟩
      · have HE := Lib.hid e
        clear e
        go_wp2_with fail
        refine (bld_string w.heap.size b _ _ hbl.out hbs).mono ?_
        rintro e w2 ⟨rfl, _, hb2, _⟩
        go_wp2
        go_ret
        exact ⟨by rw [HE.out]; rfl, hb.trans hb2⟩
    | cons r rest =>
      have hr := hsr.head
      have hsz := enc_size_pos r rest
      have hple := enc1_size_le r rest
      have hskip := rest_enc r rest
      have htake := head_enc r rest
      have hri := hr.i32
      rw [List.length_cons] at hg
      have cD := Lib.hid (dec_any r rest wr hr (hT.below hb))
      have HR2 : Hid (rs = (p ++ [r]) ++ rest) := by show _ = _; rw [HR.out]; simp
      have hql : (enc q).length + (enc1 r).length ≤ 200000 := by
        have h := congrArg (fun l => (enc l).length) HO.out
        simp only [enc_append, List.length_append] at h
        have := enc1_le r
        omega
      obtain ⟨gk, rfl⟩ : ∃ m, gk = m + 1 := ⟨gk - 1, by omega⟩
      by_cases hor : o = some r
      · subst hor
        rw [show lbT (some r) = txt (enc1 r) from rfl]
        have he1 : (txt (enc1 r)).toList.isEmpty = false := by
          rw [txt_toList]
          cases h : enc1 r with
          | nil => exact absurd h (enc1_ne r)
          | cons => rfl
        have HO2 : Hid (Q = q ++ sq (some r) rest) := by show _ = _; rw [HO.out, sq_same]
        rcases hst with ⟨rfl, hqp⟩ | ⟨b, rfl, hbl⟩
        · have cA := Lib.hid fun W (h : w.heap.size ≤ W.heap.size) => (show enc p ++ enc (r :: rest) = enc rs by rw [HR.out, enc_append]) ▸ alloc_bytes w.heap.size (enc p) (enc (r :: rest)) W (by rw [← enc_append, ← HR.out]; omega) h
          go_wp2_with (first
            | (go_at_call 56; refine cD.out.mono ?_; rintro e w1 ⟨rfl, hb1⟩)
            | (go_at_call 79; refine (cA.out _ (Nat.le_trans hbs hb1.size)).mono ?_; rintro e w2 ⟨b, rfl, hbl2, hb2⟩))
          go_roundg gk
          case rel => exact ⟨p ++ [r], rest, q, some r, HR2.out, rfl, rfl, rfl, by omega, (hb.trans (hb1.mono hbs)).trans hb2, HO2.out, sc_some hr, hsr.tail, .inr ⟨b, rfl, by show Bld _ _ _ _; rw [hqp.out]; exact hbl2⟩⟩
          case measure => omega
        · go_wp2_with (go_at_call 56; refine cD.out.mono ?_; rintro e w1 ⟨rfl, hb1⟩)
          go_roundg gk
          case rel => exact ⟨p ++ [r], rest, q, some r, HR2.out, rfl, rfl, rfl, by omega, hb.trans (hb1.mono hbs), HO2.out, sc_some hr, hsr.tail, .inr ⟨b, rfl, hbl.out.below hb1⟩⟩
          case measure => omega
      · have HO2 : Hid (Q = (q ++ [r]) ++ sq (some r) rest) := by show _ = _; rw [HO.out, sq_new o r rest hor]; simp
        have HBQ : Hid (∀ b W, Bld w.heap.size b (enc q ++ enc1 r) W → Bld w.heap.size b (enc (q ++ [r])) W) := fun b W h => by rw [enc_append, enc_one]; exact h
        cases o with
        | none =>
          have he1 : (lbT none).toList.isEmpty = true := by show (txt []).toList.isEmpty = true; rw [txt_toList]; rfl
          rcases hst with ⟨rfl, hqp⟩ | ⟨b, rfl, hbl⟩
          · go_wp2_with (go_at_call 56; refine cD.out.mono ?_; rintro e w1 ⟨rfl, hb1⟩)
            go_roundg gk
            case rel => exact ⟨p ++ [r], rest, q ++ [r], some r, HR2.out, rfl, rfl, rfl, by omega, hb.trans (hb1.mono hbs), HO2.out, sc_some hr, hsr.tail, .inl ⟨rfl, by show _ = _; rw [hqp.out]⟩⟩
            case measure => omega
          · go_wp2_with (first
              | (go_at_call 56; refine cD.out.mono ?_; rintro e w1 ⟨rfl, hb1⟩)
              | (go_at_call 81; refine (bld_write w.heap.size b _ (enc1 r) _ (hbl.out.below hb1) (by omega) (Nat.le_trans hbs hb1.size)).mono ?_; rintro e w2 ⟨rfl, hbl2, hb2, _⟩))
            go_roundg gk
            case rel => exact ⟨p ++ [r], rest, q ++ [r], some r, HR2.out, rfl, rfl, rfl, by omega, (hb.trans (hb1.mono hbs)).trans hb2, HO2.out, sc_some hr, hsr.tail, .inr ⟨b, rfl, HBQ.out _ _ hbl2⟩⟩
            case measure => omega
        | some x =>
          have hx := HS.out x rfl
          have he1 : (lbT (some x)).toList.isEmpty = false := by
            show (txt (enc1 x)).toList.isEmpty = false
            rw [txt_toList]
            cases h : enc1 x with
            | nil => exact absurd h (enc1_ne x)
            | cons => rfl
          have he2 : ¬ (txt (enc1 r)).toList = (lbT (some x)).toList := fun e => hor (by rw [enc1_inj hr hx (by have h : (txt (enc1 r)).toList = (txt (enc1 x)).toList := e; rw [txt_toList, txt_toList] at h; exact h)])
          rcases hst with ⟨rfl, hqp⟩ | ⟨b, rfl, hbl⟩
          · go_wp2_with (go_at_call 56; refine cD.out.mono ?_; rintro e w1 ⟨rfl, hb1⟩)
            go_roundg gk
            case rel => exact ⟨p ++ [r], rest, q ++ [r], some r, HR2.out, rfl, rfl, rfl, by omega, hb.trans (hb1.mono hbs), HO2.out, sc_some hr, hsr.tail, .inl ⟨rfl, by show _ = _; rw [hqp.out]⟩⟩
            case measure => omega
          · go_wp2_with (first
              | (go_at_call 56; refine cD.out.mono ?_; rintro e w1 ⟨rfl, hb1⟩)
              | (go_at_call 81; refine (bld_write w.heap.size b _ (enc1 r) _ (hbl.out.below hb1) (by omega) (Nat.le_trans hbs hb1.size)).mono ?_; rintro e w2 ⟨rfl, hbl2, hb2, _⟩))
            go_roundg gk
            case rel => exact ⟨p ++ [r], rest, q ++ [r], some r, HR2.out, rfl, rfl, rfl, by omega, (hb.trans (hb1.mono hbs)).trans hb2, HO2.out, sc_some hr, hsr.tail, .inr ⟨b, rfl, HBQ.out _ _ hbl2⟩⟩
            case measure => omega

end Go.Proofs.YtkaoafhkllomcaaDoor
