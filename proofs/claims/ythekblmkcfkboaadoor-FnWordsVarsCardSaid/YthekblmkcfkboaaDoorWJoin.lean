/- The law FnWordsJoined: two lines that are read to their end are, with a blank between them, read as the words of both. -/
import Derived.Test.YthekblmkcfkboaaDoorWLaw
namespace Go.Proofs.YthekblmkcfkboaaDoor
open Go.RowKit U8
open Go.Lib hiding intOf

theorem below_own {W w' : World} (h : Below W.heap.size W w') {w : World} (hw : Below w.heap.size w W) : Below w.heap.size w w' := hw.trans (h.mono hw.size)
theorem WordsPost.form {R : Option (List (List UInt8) × Int)} {w w' : World} {e : Ending} (h : WordsPost R w e w') : ∃ v n ok, e = .returned (.tuple #[v, .int .i64 n, .bool ok]) ∧ Below w.heap.size w w' ∧ (ok = true → ∃ x, R = some (x, n) ∧ w'.ownsRow w.heap.size 9 1 v x.length (strsV x)) := by
  obtain ⟨hb, hN, hS⟩ := h
  cases R with
  | none => exact ⟨_, 0, false, hN rfl, hb, fun h => (by cases h)⟩
  | some q =>
    obtain ⟨ao, cap, he, ho⟩ := hS q.1 q.2 rfl
    exact ⟨_, q.2, true, he, hb, fun _ => ⟨q.1, rfl, ho⟩⟩
theorem wpList_want {P : Program} {w : World} {ops : Array Oper} {rest : List Oper} {o : Oper} {a : Act} {Q : Exit → Act → World → Prop} (hw : Region.wanted o (yielded ops a.tmps) = true)
    (h : ∀ K : Act → World → Prop, (∀ a w, wpList P ops Q rest a w → K a w) → o.wp P a w K Q) : wpList P ops Q (o :: rest) a w :=
  wpList_step fun K hK => by simp only [hw, if_true]; exact h K hK
/-- An append onto a row of texts of the call's own, of another row of texts: behind a test that holds. -/
theorem append_texts {W : World} {ops : Array Oper} {rest : List Oper} {o : Oper} {a : Act} {Q : Exit → Act → World → Prop} (hw : Region.wanted o (yielded ops a.tmps) = true) (s x : Operand)
    (ho : o.op = .call { callee := .builtin .append, args := #[s, x], argTypes := #[22, 22] }) (base : Nat)
    (v : Value) (k1 k2 : List (List UInt8)) (hs : a.eval s = v) (hown : W.ownsRow base 9 1 v k1.length (strsV k1)) (g c : Nat) (hx : a.eval x = .slice (some ⟨g, 0, none⟩) k2.length c)
    (hnews : ∀ j u, (strsV k2)[j]? = some u → W.cell? ((⟨g, 0, none⟩ : Addr).add j) = some u) (hl : k1.length + k2.length ≤ 1000000) (hbase : base ≤ W.heap.size)
    (h : ∀ v' w', w'.ownsRow base 9 1 v' (k1 ++ k2).length (strsV (k1 ++ k2)) → W.grownBy w' v.ownBlock → wpList Tryd.prog ops Q rest (a.put o.dst v') w') : wpList Tryd.prog ops Q (o :: rest) a W := by
  obtain ⟨i0, hi, hz0, hz1, hz2⟩ := info_parts Tryd.infoStr
  refine wpList_want hw fun K hK => wp_append_own _ s x 22 ho base 9 i0 (.string ⟨#[]⟩) 1 16 Tryd.underlying22 hi hz0 hz1 hz2 rfl (by decide) v k1.length (strsV k1) hs hown ⟨g, 0, none⟩ k2.length c (strsV k2) hx (by simp [strsV]) hnews
    (by intro u hu; obtain ⟨z, _, rfl⟩ := List.mem_map.1 hu; rfl) (by unfold maxLen; omega) (by omega) hbase fun v' w' h1 h2 _ => hK _ _ (h v' w' ?_ h2)
  rw [List.length_append]
  show World.ownsRow _ _ _ _ _ _ (List.map _ _)
  rw [List.map_append]
  exact h1
theorem run_append_none {P : Program} {W : World} (t ty e : TypeId) (i : TypeInfo) (ht : P.underlying t = some (.slice e)) (hi : P.info? e = some i) (ao : Option Addr) (n cap c : Nat) (hc : n ≤ cap) :
    (Builtin.append_ #[t, t] ty #[.slice ao n cap, .slice none 0 c]).run P W = .ok (.slice ao n cap) W := by
  cases ao with
  | none => simp [Builtin.append_, run_underlying ht, sizeOf, typeInfo, hi, Builtin.lenOf, Builtin.firstCells, hc]
  | some g => simp [Builtin.append_, run_underlying ht, sizeOf, typeInfo, hi, Builtin.lenOf, Builtin.firstCells, hc, storeCells]
theorem row_cap {w : World} {B k n : Nat} {e : TypeId} {v : Value} {xs : List Value} (h : w.ownsRow B e k v n xs) : ∃ ao cap, v = .slice ao n cap ∧ n ≤ cap := by
  rcases h.2 with ⟨e1, h0⟩ | ⟨g, cap, cur, e1, _, _, h3, _⟩
  · exact ⟨none, 0, by rw [e1, h0], by omega⟩
  · exact ⟨_, cap, e1, h3⟩
/-- The same, of no texts. -/
theorem append_none {W : World} {ops : Array Oper} {rest : List Oper} {o : Oper} {a : Act} {Q : Exit → Act → World → Prop} (hw : Region.wanted o (yielded ops a.tmps) = true) (s x : Operand)
    (ho : o.op = .call { callee := .builtin .append, args := #[s, x], argTypes := #[22, 22] }) (base : Nat) (v : Value) (n : Nat) (xs : List Value) (hs : a.eval s = v) (hown : W.ownsRow base 9 1 v n xs) (c : Nat) (hx : a.eval x = .slice none 0 c)
    (h : wpList Tryd.prog ops Q rest (a.put o.dst v) W) : wpList Tryd.prog ops Q (o :: rest) a W := by
  obtain ⟨i0, hi, hz0, hz1, hz2⟩ := info_parts Tryd.infoStr
  obtain ⟨ao, cap, rfl, hc⟩ := row_cap hown
  have hr := run_append_none (P := Tryd.prog) (W := W) 22 o.type 9 i0 Tryd.underlying22 hi ao n cap c hc
  refine wpList_want hw fun K hK => ?_
  unfold Oper.wp execOp
  simp only [ho, resolve, invoke, builtin, Sem.run_bind, Sem.run_pure, Result.andThen_ok, List.map_toArray, List.map_cons, List.map_nil, hs, hx, hr]
  exact hK _ _ h
theorem tx_two {w : World} {base : Nat} {v : Value} {x y : List (List UInt8)} (h : w.ownsRow base 9 1 v (x.length + y.length) (List.map (fun x => Value.string (txt x)) x ++ List.map (fun x => Value.string (txt x)) y)) : Tx w v (x ++ y) := by
  refine tx_own (base := base) ?_
  rw [List.length_append]
  show World.ownsRow _ _ _ _ _ _ (List.map _ _)
  rw [List.map_append]
  exact h
theorem row_at {w W : World} {base g n cap : Nat} {x : List (List UInt8)} (h : w.ownsRow base 9 1 (.slice (some ⟨g, 0, none⟩) n cap) n (strsV x)) (hb : Below w.heap.size w W) : ∀ j u, (strsV x)[j]? = some u → W.cell? ((⟨g, 0, none⟩ : Addr).add j) = some u := fun j u hj =>
  (hb.cell (World.block_lt_of_cell? w _ (World.ownsRow.cells h rfl j u hj))).trans (World.ownsRow.cells h rfl j u hj)
theorem cat_blank (la lb : List UInt8) : txt la ++ ⟨#[32]⟩ ++ txt lb = txt (la ++ 32 :: lb) := by
  rw [show (⟨#[32]⟩ : ByteArray) = txt [32] from rfl, txt_append, txt_append, List.append_assoc]; rfl
set_option maxHeartbeats 3200000 in
theorem law_wordsJoined (a b : ByteArray) (w : World) (_ha : a.size ≤ 140737488351232) (_hb : b.size ≤ 140737488351232) (hE : Er w) :
    Calls Tryd.prog 6 #[.string a, .string b] w fun e w' => e = .returned (.bool true) ∧ Below w.heap.size w w' := by
  have hbr := Below.refl w.heap.size w
  by_cases hza : (2147483647 : Int) < a.size
  · go_enter Tryd.func6, Tryd.ntmps6
    go_wp2
    go_ret
    exact ⟨rfl, hbr⟩
  by_cases hzb : (2147483647 : Int) < b.size
  · go_enter Tryd.func6, Tryd.ntmps6
    go_wp2
    go_ret
    exact ⟨rfl, hbr⟩
  have CO := Lib.hid (one_any w hE)
  have CA := Lib.hid fun W => long_any a _ W rfl (by omega)
  have CB := Lib.hid fun W => long_any b _ W rfl (by omega)
  cases hla : decide (4096 < a.size) with
  | true =>
    rw [hla] at CA
    go_enter Tryd.func6, Tryd.ntmps6
    go_wp2_with (first | (refine CO.out.mono ?_; rintro e w1 ⟨rfl, hw1⟩) | (refine (CA.out _).mono ?_; rintro e w2 ⟨rfl, rfl⟩))
    go_ret
    exact ⟨rfl, by assumption⟩
  | false =>
  cases hlb : decide (4096 < b.size) with
  | true =>
    rw [hla] at CA
    rw [hlb] at CB
    go_enter Tryd.func6, Tryd.ntmps6
    go_wp2_with (first | (refine CO.out.mono ?_; rintro e w1 ⟨rfl, hw1⟩) | (refine (CA.out _).mono ?_; rintro e w2 ⟨rfl, rfl⟩) | (refine (CB.out _).mono ?_; rintro e w2 ⟨rfl, rfl⟩))
    go_ret
    exact ⟨rfl, by assumption⟩
  | false =>
    rw [hla] at CA
    rw [hlb] at CB
    have hla2 := of_decide_eq_false hla
    have hlb2 := of_decide_eq_false hlb
    clear hla hlb
    obtain ⟨la, rfl⟩ : ∃ la, a = txt la := ⟨a.data.toList, rfl⟩
    obtain ⟨lb, rfl⟩ : ∃ lb, b = txt lb := ⟨b.data.toList, rfl⟩
    rw [txt_size] at hla2 hlb2
    have C1 := Lib.hid fun W => words_any false [] (fun _ h => by cases h) (by decide) la (by omega) W
    have C2 := Lib.hid fun W => words_any false [] (fun _ h => by cases h) (by decide) lb (by omega) W
    have C3 := Lib.hid fun W => words_any false [] (fun _ h => by cases h) (by decide) (la ++ 32 :: lb) (by simp; omega) W
    rw [← cat_blank] at C3
    have HE := Lib.hid hE
    clear hE
    go_enter Tryd.func6, Tryd.ntmps6
    go_wp2_with (first | (refine CO.out.mono ?_; rintro e w1 ⟨rfl, hw1⟩) | (refine (CA.out _).mono ?_; rintro e w2 ⟨rfl, hw⟩; obtain rfl := hw.symm) | (refine (CB.out _).mono ?_; rintro e w2 ⟨rfl, hw⟩; obtain rfl := hw.symm))
    refine (C1.out _ (HE.out.below hw1)).mono ?_
    rintro e w2 hp
    obtain ⟨v1, n1, ok1, rfl, hb2, ho1⟩ := hp.form
    have HO1 := Lib.hid ho1
    have hb3 := below_own hb2 hw1
    clear hp ho1
    go_wp2_with fail
    refine (C2.out _ (HE.out.below hb3)).mono ?_
    rintro e w3 hp
    obtain ⟨v2, n2, ok2, rfl, hb4, ho2⟩ := hp.form
    have HO2 := Lib.hid ho2
    have hb5 := below_own hb4 hb3
    clear hp ho2
    by_cases hgo : ok1 = true ∧ ok2 = true ∧ n1 = -1 ∧ n2 = -1
    · obtain ⟨rfl, rfl, rfl, rfl⟩ := hgo
      obtain ⟨x, hx, hox⟩ := HO1.out rfl
      obtain ⟨y, hy, hoy⟩ := HO2.out rfl
      have hz := joined_run la lb x y hx hy
      go_wp2_with fail
      refine (C3.out _ (HE.out.below hb5)).mono ?_
      rintro e w4 ⟨hb6, _, hS3⟩
      obtain ⟨ao, cap, he, hoz⟩ := hS3 _ _ hz
      generalize Value.slice ao (x ++ y).length cap = vz at he hoz
      subst he
      clear hS3
      have hxl := run_len hx
      have hyl := run_len hy
      have hr1 := rns_len la
      have hr2 := rns_len lb
      simp only [Sx.start, List.length_nil] at hxl hyl
      have hoz2 := tx_own hoz
      have hb7 := below_own hb6 hb5
      have CE := Lib.hid fun (vb : Value) W (h : Below w4.heap.size w4 W) (hb : Tx W vb (x ++ y)) => eq_texts _ _ _ vb W (hoz2.below h) hb (by simp; omega) (by simp; omega)
      have HB7 := Lib.hid hb7
      have hwa : Below w4.heap.size w4 (w4.alloc (.cells #[] 9)) := (Below.refl _ _).alloc (Nat.le_refl _) _
      have hb46 : Below w2.heap.size w2 w4 := hb4.trans (hb6.mono hb4.size)
      have hE0 : (w4.alloc (.cells #[] 9)).ownsRow w4.heap.size 9 1 (.slice (some ⟨w4.heap.size, 0, none⟩) 0 0) ([] : List (List UInt8)).length (strsV []) := World.ownsRow_made w4 #[] 0 (Nat.le_refl _) (by unfold maxLen; omega) rfl
      have HX := Lib.hid hox
      have HY := Lib.hid hoy
      have HE0 := Lib.hid hE0
      have HWA := Lib.hid hwa
      have HB46 := Lib.hid hb46
      have HB6 := Lib.hid hb6
      have HW := Lib.hid hw1
      clear hE0 hwa hb46 hoz hoz2 hb7 hb6 hb5 hb4 hb3 hb2 hw1 hz hx hy HO1 HO2
      rcases hox.2 with ⟨rfl, h0⟩ | ⟨g, cap1, cur, rfl, _⟩
      · have hx0 : x = [] := List.length_eq_zero_iff.1 h0
        subst hx0
        rcases hoy.2 with ⟨rfl, h0⟩ | ⟨g2, cap2, cur2, rfl, _⟩
        · have hy0 : y = [] := List.length_eq_zero_iff.1 h0
          subst hy0
          clear hox hoy
          go_wp2_with (at_builtin; refine append_none (by rfl) _ _ rfl w4.heap.size _ 0 [] rfl HE0.out 0 rfl ?_)
          go_wp2_with (at_builtin; refine append_none (by rfl) _ _ rfl w4.heap.size _ 0 [] rfl HE0.out 0 rfl ?_)
          go_wp2_with fail
          refine (CE.out _ _ HWA.out (tx_own (l := []) HE0.out)).mono ?_
          rintro e w7 ⟨rfl, hb9⟩
          have HB9 := Lib.hid (below_own hb9 (below_own HWA.out HB7.out))
          clear hb9
          go_wp2
          go_ret
          exact ⟨by simp, HB9.out⟩
        · clear hox hoy
          go_wp2_with (first | (at_builtin; refine append_none (by rfl) _ _ rfl w4.heap.size _ 0 [] rfl HE0.out 0 rfl ?_) | (at_builtin; refine append_texts (by rfl) _ _ rfl w4.heap.size _ [] y rfl HE0.out g2 cap2 rfl (row_at HY.out (HB6.out.trans (HWA.out.mono HB6.out.size))) (by simp; omega) HWA.out.size ?_))
          intro v4 w6 ho4 hg4
          have hb8 : Below w4.heap.size w4 w6 := HWA.out.grown hg4 HWA.out.size (fun z hz => (World.ownsRow.lt HE0.out z hz).1)
          have hx4 := tx_own ho4
          have HB8 := Lib.hid hb8
          have HX4 := Lib.hid hx4
          clear ho4 hg4 hb8 hx4
          go_wp2_with fail
          refine (CE.out _ _ HB8.out (HX4.out)).mono ?_
          rintro e w7 ⟨rfl, hb9⟩
          have HB9 := Lib.hid (below_own hb9 (below_own HB8.out HB7.out))
          clear hb9
          go_wp2
          go_ret
          exact ⟨by simp, HB9.out⟩
      · rcases hoy.2 with ⟨rfl, h0⟩ | ⟨g2, cap2, cur2, rfl, _⟩
        · have hy0 : y = [] := List.length_eq_zero_iff.1 h0
          subst hy0
          clear hox hoy
          go_wp2_with (at_builtin; refine append_texts (by rfl) _ _ rfl w4.heap.size _ [] x rfl HE0.out g cap1 rfl (row_at HX.out (HB46.out.trans (HWA.out.mono HB46.out.size))) (by simp; omega) (by simp) ?_)
          intro v3 w5 ho3 hg3
          (try rw [List.nil_append] at ho3)
          have hb5 : Below w4.heap.size w4 w5 := HWA.out.grown hg3 HWA.out.size (fun z hz => (World.ownsRow.lt HE0.out z hz).1)
          have HO3 := Lib.hid ho3
          have HB5 := Lib.hid hb5
          clear ho3 hb5 hg3
          go_wp2_with (at_builtin; refine append_none (by rfl) _ _ rfl w4.heap.size v3 x.length (strsV x) rfl HO3.out 0 rfl ?_)
          go_wp2_with fail
          have hx3 : Tx w5 v3 (x ++ []) := by rw [List.append_nil]; exact tx_own HO3.out
          refine (CE.out v3 w5 HB5.out hx3).mono ?_
          rintro e w7 ⟨rfl, hb9⟩
          have HB9 := Lib.hid (below_own hb9 (below_own HB5.out HB7.out))
          clear hb9
          go_wp2
          go_ret
          exact ⟨by simp, HB9.out⟩
        · clear hox hoy
          go_wp2_with (at_builtin; refine append_texts (by rfl) _ _ rfl w4.heap.size _ [] x rfl HE0.out g cap1 rfl (row_at HX.out (HB46.out.trans (HWA.out.mono HB46.out.size))) (by simp; omega) (by simp) ?_)
          intro v3 w5 ho3 hg3
          (try rw [List.nil_append] at ho3)
          have hb5 : Below w4.heap.size w4 w5 := HWA.out.grown hg3 HWA.out.size (fun z hz => (World.ownsRow.lt HE0.out z hz).1)
          have HO3 := Lib.hid ho3
          have HB5 := Lib.hid hb5
          clear ho3 hb5 hg3
          go_wp2_with (at_builtin; refine append_texts (by rfl) _ _ rfl w4.heap.size v3 x y rfl HO3.out g2 cap2 rfl (row_at HY.out (HB6.out.trans (HB5.out.mono HB6.out.size))) (by omega) HB5.out.size ?_)
          intro v4 w6 ho4 hg4
          have hb8 : Below w4.heap.size w4 w6 := HB5.out.grown hg4 HB5.out.size (fun z hz => (World.ownsRow.lt HO3.out z hz).1)
          have hx4 := tx_two ho4
          have HB8 := Lib.hid hb8
          have HX4 := Lib.hid hx4
          clear ho4 hg4 hb8 hx4
          go_wp2_with fail
          refine (CE.out _ _ HB8.out (HX4.out)).mono ?_
          rintro e w7 ⟨rfl, hb9⟩
          have HB9 := Lib.hid (below_own hb9 (below_own HB8.out HB7.out))
          clear hb9
          go_wp2
          go_ret
          exact ⟨by simp, HB9.out⟩
    · have HB5 := Lib.hid hb5
      have hcase : ok1 = false ∨ (ok1 = true ∧ (ok2 = false ∨ (ok2 = true ∧ (n1 ≠ -1 ∨ (n1 = -1 ∧ n2 ≠ -1))))) := by cases ok1 <;> cases ok2 <;> simp_all <;> omega
      clear hgo HO1 HO2 hb2 hb3 hb4 hb5 hw1
      rcases hcase with rfl | ⟨rfl, rfl | ⟨rfl, h1 | ⟨rfl, h1⟩⟩⟩
      case' inr.inr.inl => have e1 : (n1 != -1) = true := by simpa using h1
      case' inr.inr.inr => have e1 : (n2 != -1) = true := by simpa using h1
      all_goals
        go_wp2
        go_ret
        exact ⟨rfl, HB5.out⟩

end Go.Proofs.YthekblmkcfkboaaDoor
