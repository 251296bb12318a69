/- Helpers of the law on joined texts: what stands in the last line, equal pairs, the example, appending a row. Conditions: lengths; the table unicode.properties. -/
import Derived.Test.YtdfhidnhkeapbaaDoorJHelp
import Derived.Test.YtdfhidnhkeapbaaDoorJMapW
namespace Go.Proofs.YtdfhidnhkeapbaaDoor
open Go.RowKit U8
open Go.Lib hiding intOf

set_option maxHeartbeats 1600000 in
set_option maxRecDepth 100000 in
theorem parted_any (l : List UInt8) (w : World) (hl : l.length ≤ 2147483647) :
    Calls Tryd.prog 7 #[.string (txt l)] w fun e w' => e = .returned (.bool (partedB l)) ∧ w' = w := by
  obtain ⟨R, hR⟩ : ∃ R, partedB l = R := ⟨_, rfl⟩
  rw [hR]
  have hts := txt_size l
  have HR : Hid (R = pfR (l.take l.length).reverse true) := by show _ = _; rw [List.take_length, ← pfR_parted, hR]
  clear hR
  go_enter Tryd.func7, Tryd.ntmps7
  go_wp2
  go_loopg [3, 4] (l.length + 1) (fun gk v3 v4 wr => ∃ (k : Nat) (z : Int) (b : Bool), v3 = .bool b ∧ v4 = .int .i64 z ∧ z = (k : Int) - 1 ∧ k ≤ l.length ∧ k < gk ∧ Hid (R = pfR (l.take k).reverse b) ∧ wr = w)
  case atStart => exact ⟨l.length, _, true, rfl, rfl, rfl, by omega, by omega, HR.out, rfl⟩
  case round =>
    clear HR
    obtain ⟨k, z, b, rfl, rfl, hz, hk, hg, HR, hwr⟩ := hrel
    obtain rfl := hwr.symm
    by_cases hk0 : k = 0
    · subst hk0
      obtain rfl : z = -1 := by omega
      clear hz
      have HF : Hid (R = b) := HR.out
      clear HR
      go_wp2
      go_ret
      exact ⟨by rw [HF.out]; rfl, rfl⟩
    · obtain ⟨i, rfl⟩ : ∃ i, k = i + 1 := ⟨k - 1, by omega⟩
      obtain rfl : z = (i : Int) := by omega
      clear hz
      obtain ⟨gk, rfl⟩ : ∃ x, gk = x + 1 := ⟨gk - 1, by omega⟩
      have hil : i < l.length := by omega
      have htk := List.take_succ_eq_append_getElem hil
      have hgx := List.getElem?_eq_getElem hil
      generalize l[i] = x at htk hgx
      have hix := run_byte l i x hgx w
      have hs : pfR (l.take (i + 1)).reverse b = if x == 10 then b else if x == 61 || x == 58 then true else pfR (l.take i).reverse (b && (x == 32 || x == 9)) := by
        rw [htk, List.reverse_append]; rfl
      rw [u8_beq, u8_beq, u8_beq, u8_beq, u8_beq] at hs
      have hs2 : pfR (l.take (i + 1)).reverse b = if x.toNat = 10 then b else if x.toNat = 61 ∨ x.toNat = 58 then true else pfR (l.take i).reverse (b && (decide (x.toNat = 32) || decide (x.toNat = 9))) := by
        rw [hs]
        show (if decide (x.toNat = 10) = true then _ else if (decide (x.toNat = 61) || decide (x.toNat = 58)) = true then _ else _) = _
        simp only [Bool.or_eq_true, decide_eq_true_eq]
        rfl
      obtain ⟨y, hy⟩ : ∃ y, x.toNat = y := ⟨_, rfl⟩
      rw [hy] at hix hs2
      rw [hs2] at HR
      clear hs hs2 hgx htk hy hk0
      by_cases h10 : y = 10
      · have HF : Hid (R = b) := by show _ = _; rw [HR.out, if_pos h10]
        subst h10
        clear HR
        go_wp2
        go_ret
        exact ⟨by rw [HF.out]; rfl, rfl⟩
      · have hz10 : ¬ (y : Int) = 10 := by omega
        have hb10 : ((y : Int) == 10) = false := beq_eq_false_iff_ne.2 hz10
        by_cases hsp : y = 61 ∨ y = 58
        · have HF : Hid (R = true) := by show _ = _; rw [HR.out, if_neg h10, if_pos hsp]
          clear HR
          rcases hsp with rfl | rfl
          all_goals
            go_wp2
            go_ret
            exact ⟨by rw [HF.out]; rfl, rfl⟩
        · have HF : Hid (R = pfR (l.take i).reverse (b && (decide (y = 32) || decide (y = 9)))) := by show _ = _; rw [HR.out, if_neg h10, if_neg hsp]
          have hb61 : ((y : Int) == 61) = false := beq_eq_false_iff_ne.2 (by omega)
          have hb58 : ((y : Int) == 58) = false := beq_eq_false_iff_ne.2 (by omega)
          clear HR
          cases b with
          | false =>
            have HF2 : Hid (R = pfR (l.take i).reverse false) := HF.out
            clear HF
            go_wp2
            go_roundg gk
            case rel => exact ⟨i, (i : Int) - 1, false, rfl, by go_num, rfl, by omega, by omega, HF2.out, rfl⟩
            case measure => omega
          | true =>
            by_cases h32 : y = 32
            · subst h32
              have HF2 : Hid (R = pfR (l.take i).reverse true) := HF.out
              clear HF
              go_wp2
              go_roundg gk
              case rel => exact ⟨i, (i : Int) - 1, true, rfl, by go_num, rfl, by omega, by omega, HF2.out, rfl⟩
              case measure => omega
            · have hb32 : ((y : Int) == 32) = false := beq_eq_false_iff_ne.2 (by omega)
              by_cases h9 : y = 9
              · subst h9
                have HF2 : Hid (R = pfR (l.take i).reverse true) := HF.out
                clear HF
                go_wp2
                go_roundg gk
                case rel => exact ⟨i, (i : Int) - 1, true, rfl, by go_num, rfl, by omega, by omega, HF2.out, rfl⟩
                case measure => omega
              · have hb9 : ((y : Int) == 9) = false := beq_eq_false_iff_ne.2 (by omega)
                have HF2 : Hid (R = pfR (l.take i).reverse false) := by
                  show _ = _
                  rw [HF.out, decide_eq_false h32, decide_eq_false h9]; rfl
                clear HF
                go_wp2
                go_roundg gk
                case rel => exact ⟨i, (i : Int) - 1, false, by simp, by go_num, rfl, by omega, by omega, HF2.out, rfl⟩
                case measure => omega
set_option maxHeartbeats 1600000 in
set_option maxRecDepth 100000 in
theorem eqp_any (X : KVs) (v1 v2 : Value) (w : World) (h1 : Qx w v1 X) (h2 : Qx w v2 X) (hl : X.length ≤ 1000000) :
    Calls Tryd.prog 10 #[v1, v2] w fun e w' => e = .returned (.bool true) ∧ Below w.heap.size w w' := by
  obtain ⟨ao1, c1, rfl, _, hx1⟩ := h1
  obtain ⟨ao2, c2, rfl, _, hx2⟩ := h2
  have HX1 := Lib.hid hx1
  have HX2 := Lib.hid hx2
  clear hx1 hx2
  go_enter Tryd.func10, Tryd.ntmps10
  go_wp2
  go_loopg [13] (X.length + 1) (fun gk v13 wr => ∃ k : Nat, v13 = .int .i64 k ∧ k ≤ X.length ∧ X.length - k < gk ∧ Hid (Below w.heap.size w wr))
  case atStart => exact ⟨0, rfl, by omega, by omega, Below.refl _ _⟩
  case round =>
    obtain ⟨k, rfl, hk, hg, HB⟩ := hrel
    by_cases hlt : k < X.length
    · obtain ⟨gk, rfl⟩ : ∃ m, gk = m + 1 := ⟨gk - 1, by omega⟩
      have hp := List.getElem?_eq_getElem hlt
      generalize X[k] = p at hp
      obtain ⟨g1, o1, rfl, y0, y1⟩ := HX1.out k p hp
      obtain ⟨g2, o2, rfl, z0, z1⟩ := HX2.out k p hp
      have hlift : ∀ {q : Addr} {u : Value}, w.cell? q = some u → wr.cell? q = some u := fun {q u} h => (HB.out.cell (World.block_lt_of_cell? w _ h)).trans h
      have y0 := hlift y0
      have y1 := hlift y1
      have z0 := hlift z0
      have z1 := hlift z1
      have hb1 : ((txt p.1).toList == (txt p.1).toList) = true := by simp
      have hb2 : ((txt p.2).toList == (txt p.2).toList) = true := by simp
      have hb3 : (txt p.1 == txt p.1) = true := by show ((txt p.1).data == (txt p.1).data) = true; simp
      have hb4 : (txt p.2 == txt p.2) = true := by show ((txt p.2).data == (txt p.2).data) = true; simp
      clear hp hlift
      have HB2 := Lib.hid HB.out.drew
      go_upto_region 6 with fail
      go_region
      all_goals
        go_wp2
        go_roundg gk
        case rel => exact ⟨k + 1, by go_num, by omega, by omega, by first | exact HB.out | exact HB2.out⟩
        case measure => omega
    · obtain rfl : k = X.length := by omega
      go_wp2
      go_ret
      exact ⟨rfl, HB.out⟩
theorem rowAt_own {W : World} {B : Nat} {xo : Option Addr} {xc : Nat} {X : KVs} (h : W.ownsRow B 36 2 (.slice xo X.length xc) X.length (X.flatMap pcells)) : RowAt W (.slice xo X.length xc) X.length 2 (X.flatMap pcells) := by
  refine ⟨pcells_len X, pcells_one X, ?_⟩
  rcases h.2 with ⟨e, h0⟩ | ⟨g, cap, cur, e, _⟩
  · obtain ⟨rfl, _, rfl⟩ : xo = none ∧ X.length = 0 ∧ xc = 0 := by simpa using e
    exact .inr ⟨h0, 0, by rw [h0]⟩
  · cases e
    exact .inl ⟨_, _, rfl, fun j u hj => World.ownsRow.cells h rfl j u hj⟩
theorem run_app_free {P : Program} (w : World) (t ty : TypeId) (base : Nat) (e : TypeId) (i : TypeInfo) (z : Value) (size bytes : Nat) (ht : P.underlying t = some (.slice e)) (hi : P.info? e = some i) (hz : i.zero = some z)
    (hsize : i.size = size) (hby : i.bytes = bytes) (hzs : z.cells.size = size) (hsz : 0 < size)
    (v : Value) (n : Nat) (xs : List Value) (hown : w.ownsRow base e size v n xs)
    (vx : Value) (m : Nat) (news : List Value) (hr : RowAt w vx m size news)
    (h63 : n + m ≤ 1000000000) (hbytes : (n + m) * bytes ≤ 140737488355328) (hbase : base ≤ w.heap.size) :
    ∃ ao cap w', (Builtin.append_ #[t, t] ty #[v, vx]).run P w = .ok (.slice ao (n + m) cap) w' ∧ w'.ownsRow base e size (.slice ao (n + m) cap) (n + m) (xs ++ news) ∧ Below base w w' ∧ (∀ k, k < w.heap.size → v.ownBlock ≠ some k → w'.heap[k]? = w.heap[k]?) ∧ w.heap.size ≤ w'.heap.size := by
  obtain ⟨hl, h1, ⟨ad, c, rfl, hnews⟩ | ⟨rfl, c, rfl⟩⟩ := hr
  · obtain ⟨v', w', hrun, h2, h3, _⟩ := run_append_own (P := P) w base t ty e i z size bytes ht hi hz hsize hby hzs hsz v n xs hown ad m c news hl hnews h1 (by unfold maxLen; omega) hbytes hbase
    obtain ⟨ao, cap, rfl⟩ := owns_slice h2
    exact ⟨ao, cap, w', hrun, h2, (Below.refl base w).grown h3 (by omega) (fun k hk => (hown.lt k hk).1), fun k hk hne => h3.block k hk (fun e => hne e.symm), h3.size⟩
  · obtain ⟨ao, cap, rfl⟩ := owns_slice hown
    have hcap : n ≤ cap := by
      rcases hown.2 with ⟨e1, h0⟩ | ⟨g, cap2, cur, e1, _, _, h3, _⟩
      · omega
      · cases e1; exact h3
    have hne : news = [] := List.eq_nil_of_length_eq_zero (by omega)
    subst hne
    have hrun : (Builtin.append_ #[t, t] ty #[.slice ao n cap, .slice none 0 c]).run P w = .ok (.slice ao n cap) w := by
      cases ao with
      | none => simp [Builtin.append_, run_underlying ht, sizeOf, typeInfo, hi, Builtin.lenOf, Builtin.firstCells, hcap]
      | some g => simp [Builtin.append_, run_underlying ht, sizeOf, typeInfo, hi, Builtin.lenOf, Builtin.firstCells, hcap, storeCells]
    exact ⟨ao, cap, w, hrun, by rw [List.append_nil]; exact hown, Below.refl _ _, fun _ _ _ => rfl, Nat.le_refl _⟩
end Go.Proofs.YtdfhidnhkeapbaaDoor
