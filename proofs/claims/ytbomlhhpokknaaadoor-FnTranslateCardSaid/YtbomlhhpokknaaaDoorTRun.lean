/- TranslateRune, Translate, Delete, Count: what they do with a translator and a text. -/
import Derived.Test.YtbomlhhpokknaaaDoorTTr
namespace Go.Proofs.YtbomlhhpokknaaaDoor
open Go.RowKit U8
open Go.Lib hiding intOf

theorem rlook_bd {l : List (Int × Int × Int × Int)} (h : ∀ R ∈ l, Cp R.1 ∧ Cp R.2.1 ∧ Cp R.2.2.1 ∧ Cp R.2.2.2) {r v : Int} : rlook l r = some v → -2000000 ≤ v ∧ v ≤ 3000000 := by
  induction l with
  | nil => intro h; cases h
  | cons R l ih =>
    intro hv
    unfold rlook at hv
    obtain ⟨h1, h2, h3, h4⟩ := h R (by simp)
    by_cases e : R.1 ≤ r ∧ r ≤ R.2.1
    · rw [if_pos e] at hv
      have hv := Option.some.inj hv
      unfold rngAt at hv
      unfold Cp at *
      split at hv
      · omega
      · split at hv <;> omega
    · rw [if_neg e] at hv
      exact ih (fun R hR => h R (by simp [hR])) hv
theorem look_bd {T : Tr} (h : T.Ok) {r v : Int} (hv : T.look r = some v) : -2000000 ≤ v ∧ v ≤ 3000000 := by
  unfold Tr.look at hv
  have cp : ∀ {x : Int}, Cp x → -2000000 ≤ x ∧ x ≤ 3000000 := fun hx => by unfold Cp at hx; omega
  split at hv
  · rename_i v1 h1
    cases hv
    split at h1
    · exact cp (h.dv _ _ h1)
    · cases h1
  · split at hv
    · rename_i v1 h1
      cases hv
      exact cp (h.mv _ _ h1)
    · exact rlook_bd (fun R hR => h.rgs R (by simpa using hR)) hv
theorem trans_bd {B b : Nat} {X : Tx} {w : World} (h : TxAt B b X w) (n : Nat) (hn : n ≤ 1114111) : -2147483648 ≤ (X.trans n).1 ∧ (X.trans n).1 ≤ 2147483647 := by
  have hm := h.2.2
  show -2147483648 ≤ X.res (X.T.look n) n ∧ X.res (X.T.look n) n ≤ 2147483647
  cases e : X.T.look n with
  | some v =>
    have := look_bd h.2.1 e
    unfold Tx.res
    dsimp only
    split
    · omega
    · split <;> omega
  | none =>
    unfold Tx.res
    dsimp only
    split <;> omega
theorem piece_len (X : Tx) (p : List UInt8 × Nat) (hp : p.1 ≠ []) : (X.piece p).length ≤ 4 * p.1.length := by
  have h1 : 0 < p.1.length := List.length_pos_iff.2 hp
  unfold Tx.piece
  split
  · simp
  · split
    · have : (encodeRune (X.trans p.2).1).length ≤ 4 := by unfold encodeRune; rw [List.length_map]; exact (encodeRuneZ_length _).2
      omega
    · omega
theorem pieces_len (X : Tx) : ∀ (n : Nat) (l : List UInt8), l.length ≤ n → ((pcs l).flatMap X.piece).length ≤ 4 * l.length := by
  intro n
  induction n with
  | zero =>
    intro l hl
    have : l = [] := List.eq_nil_of_length_eq_zero (by omega)
    subst this
    simp [pcs_nil]
  | succ n ih =>
    intro l hl
    by_cases hne : l = []
    · subst hne; simp [pcs_nil]
    · obtain ⟨a, rest, r, rfl, ha, hd, _, _⟩ := first_part l hne
      have h1 : 0 < a.length := List.length_pos_iff.2 ha
      rw [List.length_append] at hl
      have := ih rest (by omega)
      have h2 := piece_len X (a, r) ha
      rw [pcs_cons a rest r ha hd, List.flatMap_cons, List.length_append, List.length_append]
      dsimp only at h2
      omega
theorem text_len (X : Tx) (l : List UInt8) : (X.text l).length ≤ 4 * l.length := by
  unfold Tx.text
  split
  · exact pieces_len X l.length l (Nat.le_refl _)
  · omega
theorem bld_runeI (B b : Nat) (l : List UInt8) (z : Int) (w : World) (h : Bld B b l w) (h1 : -2147483648 ≤ z) (h2 : z ≤ 2147483647) (hl : l.length + 4 ≤ 140737488355328) (hB : B ≤ w.heap.size) :
    Calls Tryd.prog 50 #[.pointer (some ⟨b, 0, none⟩), .int .i32 z] w fun e w' => (∃ k : Int, e = .returned (.tuple #[.int .i64 k, .nilIface])) ∧ Bld B b (l ++ encodeRune z) w' ∧ Below B w w' := by
  refine (Tryd.Builder_WriteRune_k B b (byteCells l) z h1 h2 w h (by rw [byteCells_length]; exact hl) hB).mono ?_
  rintro e w' ⟨rfl, h1, h2, h3⟩
  refine ⟨⟨_, rfl⟩, ?_, h2⟩
  unfold Bld
  rw [byteCells_app, show byteCells (encodeRune z) = runeCells z from byteCells_encodeRune z]
  exact .inr h1

theorem trr_any (B b : Nat) (X : Tx) (n : Nat) (w : World) (h1 : n ≤ 2147483647) (hX : TxAt B b X w) :
    Calls Tryd.prog 27 #[.pointer (some ⟨b, 0, none⟩), .int .i32 n] w fun e w' => e = .returned (.tuple #[.int .i32 (X.trans n).1, .bool (X.hit n)]) ∧ Below w.heap.size w w' := by
  have c := Lib.hid (trune_any B b X n w h1 hX)
  clear hX
  go_enter Tryd.func27, Tryd.ntmps27
  go_wp2_with (go_at_call 44; refine c.out.mono ?_; rintro e w1 ⟨rfl, hb1⟩)
  go_ret2
  exact ⟨rfl, hb1⟩

set_option maxHeartbeats 3200000 in
set_option maxRecDepth 100000 in
theorem translate_any (B b : Nat) (X : Tx) (l : List UInt8) (w : World) (hl : l.length ≤ 1000000) (hX : TxAt B b X w) (hT : Tabs w) :
    Calls Tryd.prog 45 #[.pointer (some ⟨b, 0, none⟩), .string (txt l)] w fun e w' => e = .returned (.string (txt (X.text l))) ∧ Below w.heap.size w w' := by
  have HX := Lib.hid hX
  obtain ⟨_, _, _, c0, c1, c2, c3, c4, c5, c6, _, _, _⟩ := tx_cells hX
  clear hX c0 c1 c2 c3 c4 c5
  cases hh : X.has with
  | false =>
    rw [hh] at c6
    have HE : Hid (X.text l = l) := by show _ = _; unfold Tx.text; rw [hh]; rfl
    clear hh
    go_enter Tryd.func45, Tryd.ntmps45
    go_wp2
    go_ret
    exact ⟨by rw [HE.out]; rfl, Below.refl _ _⟩
  | true =>
    rw [hh] at c6
    by_cases hne : l = []
    · subst hne
      have HE : Hid (X.text [] = []) := by show _ = _; unfold Tx.text; rw [hh]; rfl
      have he : (txt ([] : List UInt8)).toList.isEmpty = true := by rw [txt_toList]; rfl
      clear hh
      go_enter Tryd.func45, Tryd.ntmps45
      go_wp2
      go_ret
      exact ⟨by rw [HE.out]; rfl, Below.refl _ _⟩
    · have he : (txt l).toList.isEmpty = false := by rw [txt_toList]; exact List.isEmpty_eq_false_iff.2 hne
      have hQl := text_len X l
      have hQ : X.text l = (pcs l).flatMap X.piece := by unfold Tx.text; rw [hh]; rfl
      obtain ⟨Q, hQQ⟩ : ∃ Q, X.text l = Q := ⟨_, rfl⟩
      rw [hQQ] at hQ hQl ⊢
      have HQ := Lib.hid hQ
      clear hh hQ hQQ hne
      go_enter Tryd.func45, Tryd.ntmps45
      go_wp2
      go_loopg [1, 10] (l.length + 1) (fun gk s out wr => ∃ p rest q : List UInt8, Hid (l = p ++ rest) ∧ s = .string (txt rest) ∧ rest.length < gk ∧ Below w.heap.size w wr ∧ Hid (Q = q ++ (pcs rest).flatMap X.piece) ∧ ((out = .pointer none ∧ Hid (q = p)) ∨ (∃ bb, out = .pointer (some ⟨bb, 0, none⟩) ∧ Hid (Bld w.heap.size bb q wr))))
      case atStart => exact ⟨[], l, [], rfl, rfl, by omega, Below.refl _ _, HQ.out, .inl ⟨rfl, rfl⟩⟩
      case round =>
        obtain ⟨p, rest, q, HP, rfl, hg, hb, HQ2, hst⟩ := hrel
        have hbs := hb.size
        clear HQ
        by_cases hne : rest = []
        · subst hne
          have h0 : (txt ([] : List UInt8)).size ≤ 0 := Nat.le_refl _
          have e := HQ2.out
          rw [pcs_nil, List.flatMap_nil, List.append_nil] at e
          rcases hst with ⟨rfl, hqp⟩ | ⟨bb, rfl, hbl⟩
          · have HE : Hid (Q = l) := by show _ = _; rw [e, hqp.out, HP.out, List.append_nil]
            clear e
            go_wp2
            go_ret
            exact ⟨by rw [HE.out]; rfl, hb⟩
          · have HE := Lib.hid e
            clear e
            go_wp2_with fail
            refine (bld_string w.heap.size bb _ _ hbl.out hbs).mono ?_
            rintro e w2 ⟨rfl, _, hb2, _⟩
            go_wp2
            go_ret
            exact ⟨by rw [HE.out]; rfl, hb.trans hb2⟩
        · obtain ⟨a, rest, r, rfl, ha, hd, hsc, _⟩ := first_part rest hne
          have hsz := size_pos a rest ha
          have hple := part_le a rest
          have hal : 0 < a.length := List.length_pos_iff.2 ha
          have hskip := txt_skip a rest
          have htake := txt_take a rest
          have hri := hsc.i32
          have hcp := sc_cp hsc
          unfold Cp at hcp
          rw [List.length_append] at hg
          obtain ⟨gk, rfl⟩ : ∃ m, gk = m + 1 := ⟨gk - 1, by omega⟩
          have cD := Lib.hid (dec_list a rest r wr ha hd (hT.below hb))
          have HP2 : Hid (l = (p ++ a) ++ rest) := by show _ = _; rw [HP.out]; simp
          have HQ3 : Hid (Q = q ++ (X.piece (a, r) ++ (pcs rest).flatMap X.piece)) := by show _ = _; rw [HQ2.out, pcs_cons a rest r ha hd, List.flatMap_cons]
          have hql : q.length ≤ 4000000 := by
            have h := congrArg List.length HQ3.out
            rw [List.length_append] at h
            omega
          have hall : a.length ≤ 1000000 := by
            have h := congrArg List.length HP.out
            rw [List.length_append, List.length_append] at h
            omega
          have cA := Lib.hid fun W (h : w.heap.size ≤ W.heap.size) => (show p ++ (a ++ rest) = l from HP.out.symm) ▸ alloc_bytes w.heap.size p (a ++ rest) W (by rw [← HP.out]; omega) h
          have cT0 := fun W (h : Below w.heap.size w W) => trune_any B b X r W (by omega) (HX.out.below h)
          have hbd := trans_bd HX.out r (by omega)
          have hP1 : X.piece (a, r) = if X.hit r && X.del then [] else if X.hit r then encodeRune (X.trans r).1 else a := rfl
          have hT2 : (X.trans r).2.1 = X.hit r := rfl
          have hT3 : (X.trans r).2.2 = (X.hit r && X.del) := rfl
          simp only [hT2, hT3] at cT0
          rw [hP1] at HQ3
          clear HQ2 hP1 hT2 hT3 hd ha HP hne
          cases hhit : X.hit r with
          | false =>
            rw [hhit] at HQ3
            simp only [hhit, Bool.false_and] at cT0
            simp only [Bool.false_and, Bool.false_eq_true, if_false] at HQ3
            obtain ⟨z, hz⟩ : ∃ z, (X.trans r).1 = z := ⟨_, rfl⟩
            rw [hz] at cT0 hbd
            have cT := Lib.hid cT0
            have HQ4 : Hid (Q = (q ++ a) ++ (pcs rest).flatMap X.piece) := by show _ = _; rw [HQ3.out, List.append_assoc]
            clear cT0 hz hhit HQ3
            rcases hst with ⟨rfl, hqp⟩ | ⟨bb, rfl, hbl⟩
            · go_wp2_with (first
                | (go_at_call 41; refine cD.out.mono ?_; rintro e w1 ⟨rfl, hb1⟩)
                | (go_at_call 44; refine (cT.out _ (hb.trans (hb1.mono hbs))).mono ?_; rintro e w2 ⟨rfl, hb2⟩))
              go_roundg gk
              case rel => exact ⟨p ++ a, rest, q ++ a, HP2.out, rfl, by omega, (hb.trans (hb1.mono hbs)).trans (hb2.mono (Nat.le_trans hbs hb1.size)), HQ4.out, .inl ⟨rfl, by show _ = _; rw [hqp.out]⟩⟩
              case measure => omega
            · go_wp2_with (first
                | (go_at_call 41; refine cD.out.mono ?_; rintro e w1 ⟨rfl, hb1⟩)
                | (go_at_call 44; refine (cT.out _ (hb.trans (hb1.mono hbs))).mono ?_; rintro e w2 ⟨rfl, hb2⟩)
                | (go_at_call 51; refine (bld_write w.heap.size bb _ a _ ((hbl.out.below hb1).below hb2) (by omega) (Nat.le_trans hbs (Nat.le_trans hb1.size hb2.size))).mono ?_; rintro e w5 ⟨rfl, hbl5, hb5, _⟩))
              go_roundg gk
              case rel => exact ⟨p ++ a, rest, q ++ a, HP2.out, rfl, by omega, ((hb.trans (hb1.mono hbs)).trans (hb2.mono (Nat.le_trans hbs hb1.size))).trans hb5, HQ4.out, .inr ⟨bb, rfl, hbl5⟩⟩
              case measure => omega
          | true =>
            rw [hhit] at HQ3
            simp only [hhit, Bool.true_and] at cT0
            simp only [Bool.true_and, if_true] at HQ3
            obtain ⟨z, hz⟩ : ∃ z, (X.trans r).1 = z := ⟨_, rfl⟩
            rw [hz] at cT0 hbd HQ3
            cases hdl : X.del with
            | true =>
              simp only [hdl] at cT0 HQ3
              have cT := Lib.hid cT0
              have HQ4 : Hid (Q = q ++ (pcs rest).flatMap X.piece) := by show _ = _; rw [HQ3.out]; rfl
              clear cT0 hz hhit HQ3 hdl
              rcases hst with ⟨rfl, hqp⟩ | ⟨bb, rfl, hbl⟩
              · go_wp2_with (first
                | (go_at_call 41; refine cD.out.mono ?_; rintro e w1 ⟨rfl, hb1⟩)
                | (go_at_call 44; refine (cT.out _ (hb.trans (hb1.mono hbs))).mono ?_; rintro e w2 ⟨rfl, hb2⟩)
                | (go_at_call 49; refine (cA.out _ (Nat.le_trans hbs (Nat.le_trans hb1.size hb2.size))).mono ?_; rintro e w4 ⟨b4, rfl, hbl4, hb4⟩))
                go_roundg gk
                case rel => exact ⟨p ++ a, rest, q, HP2.out, rfl, by omega, ((hb.trans (hb1.mono hbs)).trans (hb2.mono (Nat.le_trans hbs hb1.size))).trans hb4, HQ4.out, .inr ⟨b4, rfl, by show Bld _ _ _ _; rw [hqp.out]; exact hbl4⟩⟩
                case measure => omega
              · go_wp2_with (first
                | (go_at_call 41; refine cD.out.mono ?_; rintro e w1 ⟨rfl, hb1⟩)
                | (go_at_call 44; refine (cT.out _ (hb.trans (hb1.mono hbs))).mono ?_; rintro e w2 ⟨rfl, hb2⟩))
                go_roundg gk
                case rel => exact ⟨p ++ a, rest, q, HP2.out, rfl, by omega, (hb.trans (hb1.mono hbs)).trans (hb2.mono (Nat.le_trans hbs hb1.size)), HQ4.out, .inr ⟨bb, rfl, (hbl.out.below hb1).below hb2⟩⟩
                case measure => omega
            | false =>
              simp only [hdl, Bool.false_eq_true, if_false] at cT0 HQ3
              have cT := Lib.hid cT0
              have HQ4 : Hid (Q = (q ++ encodeRune z) ++ (pcs rest).flatMap X.piece) := by show _ = _; rw [HQ3.out, List.append_assoc]
              clear cT0 hz hhit HQ3 hdl
              rcases hst with ⟨rfl, hqp⟩ | ⟨bb, rfl, hbl⟩
              · go_wp2_with (first
                | (go_at_call 41; refine cD.out.mono ?_; rintro e w1 ⟨rfl, hb1⟩)
                | (go_at_call 44; refine (cT.out _ (hb.trans (hb1.mono hbs))).mono ?_; rintro e w2 ⟨rfl, hb2⟩)
                | (go_at_call 49; refine (cA.out _ (Nat.le_trans hbs (Nat.le_trans hb1.size hb2.size))).mono ?_; rintro e w4 ⟨b4, rfl, hbl4, hb4⟩)
                | (go_at_call 50; refine (bld_runeI w.heap.size b4 q z _ (by rw [hqp.out]; exact hbl4) hbd.1 hbd.2 (by omega) (Nat.le_trans hbs (Nat.le_trans (Nat.le_trans hb1.size hb2.size) hb4.size))).mono ?_; rintro e w5 ⟨⟨k5, rfl⟩, hbl5, hb5⟩))
                go_roundg gk
                case rel => exact ⟨p ++ a, rest, q ++ encodeRune z, HP2.out, rfl, by omega, (((hb.trans (hb1.mono hbs)).trans (hb2.mono (Nat.le_trans hbs hb1.size))).trans hb4).trans hb5, HQ4.out, .inr ⟨b4, rfl, hbl5⟩⟩
                case measure => omega
              · go_wp2_with (first
                | (go_at_call 41; refine cD.out.mono ?_; rintro e w1 ⟨rfl, hb1⟩)
                | (go_at_call 44; refine (cT.out _ (hb.trans (hb1.mono hbs))).mono ?_; rintro e w2 ⟨rfl, hb2⟩)
                | (go_at_call 50; refine (bld_runeI w.heap.size bb q z _ ((hbl.out.below hb1).below hb2) hbd.1 hbd.2 (by omega) (Nat.le_trans hbs (Nat.le_trans hb1.size hb2.size))).mono ?_; rintro e w5 ⟨⟨k5, rfl⟩, hbl5, hb5⟩))
                go_roundg gk
                case rel => exact ⟨p ++ a, rest, q ++ encodeRune z, HP2.out, rfl, by omega, ((hb.trans (hb1.mono hbs)).trans (hb2.mono (Nat.le_trans hbs hb1.size))).trans hb5, HQ4.out, .inr ⟨bb, rfl, hbl5⟩⟩
                case measure => omega

/-- How many characters match. -/
def cnt (l p : List UInt8) : Nat := if p = [] then 0 else (newTr p []).count l
set_option maxHeartbeats 1600000 in
set_option maxRecDepth 100000 in
theorem count_any (l p : List UInt8) (w : World) (hl : l.length ≤ 1000000) (hp : p.length ≤ 10000) (hT : Tabs w) :
    Calls Tryd.prog 31 #[.string (txt l), .string (txt p)] w fun e w' => e = .returned (.int .i64 (cnt l p)) ∧ Below w.heap.size w w' := by
  by_cases hp0 : p = []
  · subst hp0
    rw [show cnt l [] = 0 from if_pos rfl]
    have he : (txt ([] : List UInt8)).toList.isEmpty = true := by rw [txt_toList]; rfl
    go_enter Tryd.func31, Tryd.ntmps31
    go_wp2
    go_ret
    exact ⟨rfl, Below.refl _ _⟩
  rw [show cnt l p = (newTr p []).count l from if_neg hp0]
  have hep : (txt p).toList.isEmpty = false := by rw [txt_toList]; exact List.isEmpty_eq_false_iff.2 hp0
  by_cases hl0 : l = []
  · subst hl0
    have he : (txt ([] : List UInt8)).toList.isEmpty = true := by rw [txt_toList]; rfl
    clear hp0
    go_enter Tryd.func31, Tryd.ntmps31
    go_wp2
    go_ret
    exact ⟨rfl, Below.refl _ _⟩
  have hel : (txt l).toList.isEmpty = false := by rw [txt_toList]; exact List.isEmpty_eq_false_iff.2 hl0
  have cN := Lib.hid (new_any p [] w hp (by simp) hT)
  obtain ⟨X, hX⟩ : ∃ X, newTr p [] = X := ⟨_, rfl⟩
  rw [hX] at cN ⊢
  have HC := Lib.hid (show X.count l = (pcs l).countP fun q => X.hit q.2 from rfl)
  clear hX hp0 hl0
  go_enter Tryd.func31, Tryd.ntmps31
  go_wp2_with (go_at_call 26; refine cN.out.mono ?_; rintro e w1 ⟨b, B, rfl, hX, hb0⟩)
  have HX := Lib.hid hX
  clear hX
  go_loopg [0, 9] (l.length + 1) (fun gk s c wr => ∃ (rest : List UInt8) (n : Nat), s = .string (txt rest) ∧ c = .int .i64 n ∧ rest.length < gk ∧ n + rest.length ≤ l.length ∧ Below w1.heap.size w1 wr ∧ Hid (X.count l = n + (pcs rest).countP fun q => X.hit q.2))
  case atStart => exact ⟨l, 0, rfl, rfl, by omega, by omega, Below.refl _ _, by show _ = _; rw [HC.out]; simp⟩
  case round =>
    obtain ⟨rest, n, rfl, rfl, hg, hn, hb, HC2⟩ := hrel
    have hbs := hb.size
    clear HC
    by_cases hne : rest = []
    · subst hne
      have h0 : (txt ([] : List UInt8)).size ≤ 0 := Nat.le_refl _
      have e := HC2.out
      rw [pcs_nil, List.countP_nil, Nat.add_zero] at e
      have HE := Lib.hid e
      clear e
      go_wp2
      go_ret
      exact ⟨by rw [HE.out]; rfl, chain hb0 hb⟩
    · obtain ⟨a, rest, r, rfl, ha, hd, hsc, _⟩ := first_part rest hne
      have hsz := size_pos a rest ha
      have hple := part_le a rest
      have hal : 0 < a.length := List.length_pos_iff.2 ha
      have hskip := txt_skip a rest
      have hri := hsc.i32
      rw [List.length_append] at hg hn
      obtain ⟨gk, rfl⟩ : ∃ m, gk = m + 1 := ⟨gk - 1, by omega⟩
      have cD := Lib.hid (dec_list a rest r wr ha hd (hT.below (chain hb0 hb)))
      have cT0 := fun W (h : Below w1.heap.size w1 W) => trr_any B b X r W (by omega) (HX.out.below h)
      have hc := HC2.out
      rw [pcs_cons a rest r ha hd, List.countP_cons] at hc
      clear HC2 hd ha hne
      cases hhit : X.hit r with
      | false =>
        simp only [hhit] at cT0
        dsimp only at hc
        rw [hhit] at hc
        have HC3 : Hid (X.count l = n + (pcs rest).countP fun q => X.hit q.2) := by show _ = _; rw [hc]; rfl
        have cT := Lib.hid cT0
        clear cT0 hhit hc
        go_wp2_with (first
          | (go_at_call 41; refine cD.out.mono ?_; rintro e w2 ⟨rfl, hb2⟩)
          | (go_at_call 27; refine (cT.out _ (chain hb hb2)).mono ?_; rintro e w3 ⟨rfl, hb3⟩))
        go_roundg gk
        case rel => exact ⟨rest, n, rfl, rfl, by omega, by omega, chain (chain hb hb2) hb3, HC3.out⟩
        case measure => omega
      | true =>
        simp only [hhit] at cT0
        dsimp only at hc
        rw [hhit] at hc
        have HC3 : Hid (X.count l = (n + 1) + (pcs rest).countP fun q => X.hit q.2) := by show _ = _; rw [hc, if_pos rfl]; omega
        have cT := Lib.hid cT0
        clear cT0 hhit hc
        go_wp2_with (first
          | (go_at_call 41; refine cD.out.mono ?_; rintro e w2 ⟨rfl, hb2⟩)
          | (go_at_call 27; refine (cT.out _ (chain hb hb2)).mono ?_; rintro e w3 ⟨rfl, hb3⟩))
        go_roundg gk
        case rel => exact ⟨rest, n + 1, rfl, by go_num, by omega, by omega, chain (chain hb hb2) hb3, HC3.out⟩
        case measure => omega

/-- Translate of the package, of impl; Delete. -/
def trl (l p q : List UInt8) : List UInt8 := (newTr p q).text l
theorem xtranslate_any (l p q : List UInt8) (w : World) (hl : l.length ≤ 1000000) (hp : p.length ≤ 10000) (hq : q.length ≤ 10000) (hT : Tabs w) :
    Calls Tryd.prog 33 #[.string (txt l), .string (txt p), .string (txt q)] w fun e w' => e = .returned (.string (txt (trl l p q))) ∧ Below w.heap.size w w' := by
  have cN := Lib.hid (new_any p q w hp hq hT)
  unfold trl
  obtain ⟨X, hX⟩ : ∃ X, newTr p q = X := ⟨_, rfl⟩
  rw [hX] at cN ⊢
  clear hX
  go_enter Tryd.func33, Tryd.ntmps33
  go_wp2_with (first
    | (go_at_call 26; refine cN.out.mono ?_; rintro e w1 ⟨b, B, rfl, hX, hb0⟩; have HX := Lib.hid hX; clear hX)
    | (go_at_call 45; refine (translate_any B b X l _ hl HX.out (hT.below hb0)).mono ?_; rintro e w2 ⟨rfl, hb2⟩))
  go_ret
  exact ⟨rfl, chain hb0 hb2⟩
theorem translate_im (l p q : List UInt8) (w : World) (hl : l.length ≤ 1000000) (hp : p.length ≤ 10000) (hq : q.length ≤ 10000) (hT : Tabs w) :
    Calls Tryd.prog 15 #[.string (txt l), .string (txt p), .string (txt q)] w fun e w' => e = .returned (.string (txt (trl l p q))) ∧ Below w.heap.size w w' := by
  go_enter Tryd.func15, Tryd.ntmps15
  go_wp2_with (go_at_call 33; refine (xtranslate_any l p q _ hl hp hq hT).mono ?_; rintro e w' ⟨rfl, hb⟩)
  go_ret
  exact ⟨rfl, hb⟩
theorem xdelete_any (l p : List UInt8) (w : World) (hl : l.length ≤ 1000000) (hp : p.length ≤ 10000) (hT : Tabs w) :
    Calls Tryd.prog 36 #[.string (txt l), .string (txt p)] w fun e w' => e = .returned (.string (txt (trl l p []))) ∧ Below w.heap.size w w' := by
  have cN := Lib.hid (new_any p [] w hp (by simp) hT)
  unfold trl
  obtain ⟨X, hX⟩ : ∃ X, newTr p [] = X := ⟨_, rfl⟩
  rw [hX] at cN ⊢
  clear hX
  go_enter Tryd.func36, Tryd.ntmps36
  go_wp2_with (first
    | (go_at_call 26; refine cN.out.mono ?_; rintro e w1 ⟨b, B, rfl, hX, hb0⟩; have HX := Lib.hid hX; clear hX)
    | (go_at_call 45; refine (translate_any B b X l _ hl HX.out (hT.below hb0)).mono ?_; rintro e w2 ⟨rfl, hb2⟩))
  go_ret
  exact ⟨rfl, chain hb0 hb2⟩
theorem delete_im (l p : List UInt8) (w : World) (hl : l.length ≤ 1000000) (hp : p.length ≤ 10000) (hT : Tabs w) :
    Calls Tryd.prog 22 #[.string (txt l), .string (txt p)] w fun e w' => e = .returned (.string (txt (trl l p []))) ∧ Below w.heap.size w w' := by
  go_enter Tryd.func22, Tryd.ntmps22
  go_wp2_with (go_at_call 36; refine (xdelete_any l p _ hl hp hT).mono ?_; rintro e w' ⟨rfl, hb⟩)
  go_ret
  exact ⟨rfl, hb⟩
theorem count_im (l p : List UInt8) (w : World) (hl : l.length ≤ 1000000) (hp : p.length ≤ 10000) (hT : Tabs w) :
    Calls Tryd.prog 13 #[.string (txt l), .string (txt p)] w fun e w' => e = .returned (.int .i64 (cnt l p)) ∧ Below w.heap.size w w' := by
  go_enter Tryd.func13, Tryd.ntmps13
  go_wp2_with (go_at_call 31; refine (count_any l p _ hl hp hT).mono ?_; rintro e w' ⟨rfl, hb⟩)
  go_ret
  exact ⟨rfl, hb⟩
theorem trune_im (p q : List UInt8) (n : Nat) (w : World) (hp : p.length ≤ 10000) (hq : q.length ≤ 10000) (hn : n ≤ 2147483647) (hT : Tabs w) :
    Calls Tryd.prog 10 #[.string (txt p), .string (txt q), .int .i32 n] w fun e w' => e = .returned (.tuple #[.int .i32 ((newTr p q).trans n).1, .bool ((newTr p q).hit n)]) ∧ Below w.heap.size w w' := by
  have cN := Lib.hid (new_any p q w hp hq hT)
  obtain ⟨X, hX⟩ : ∃ X, newTr p q = X := ⟨_, rfl⟩
  rw [hX] at cN ⊢
  clear hX
  go_enter Tryd.func10, Tryd.ntmps10
  go_wp2_with (first
    | (go_at_call 26; refine cN.out.mono ?_; rintro e w1 ⟨b, B, rfl, hX, hb0⟩; have HX := Lib.hid hX; clear hX)
    | (go_at_call 27; refine (trr_any B b X n _ hn HX.out).mono ?_; rintro e w2 ⟨rfl, hb2⟩))
  go_ret2
  exact ⟨rfl, chain hb0 hb2⟩

end Go.Proofs.YtbomlhhpokknaaaDoor
