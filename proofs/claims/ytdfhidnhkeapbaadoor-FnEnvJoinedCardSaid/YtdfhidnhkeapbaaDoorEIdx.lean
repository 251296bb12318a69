/- godotenv.zzIndex, zzReplaceAll, doubleQuoteEscape at any texts. Conditions: the sizes. -/
import Derived.Test.YtdfhidnhkeapbaaDoorGList
import Derived.Test.YtdfhidnhkeapbaaDoorEPlain
import Derived.Lib.AppendStr
import Derived.Lib.BufferRead
namespace Go.Proofs.YtdfhidnhkeapbaaDoor
open Go.RowKit U8
open Go.Lib hiding intOf

def idxI : Option Nat → Int
  | none => -1
  | some i => i
theorem eslice (s : List UInt8) (i n : Nat) (h : i + n ≤ s.length) (W : World) :
    (Instr.slice 9 (.string (txt s)) (some (.int .i64 i)) (some (.int .i64 ((i : Int) + n))) none).run Tryd.prog W = .ok (.string (txt ((s.drop i).take n))) W := by
  have hts := txt_size s
  have hex : (txt s).extract i (i + n) = txt ((s.drop i).take n) := by
    rw [txt_extract, List.drop_take, show i + n - i = n by omega]
  have e2 : ((i : Int) + n).toNat = i + n := by omega
  simp [Instr.slice, run_underlying Tryd.underlying9, Instr.sliceBounds, run_sliceBound, (by omega : (0 : Int) ≤ i), (by omega : (0 : Int) ≤ (i : Int) + n), e2, hts, (by omega : (i : Int) + n ≤ (s.length : Int)), (by omega : (i : Int) ≤ (i : Int) + n), hex]
theorem prefix_take (sub s : List UInt8) (h : sub.length ≤ s.length) : (s.take sub.length == sub) = sub.isPrefixOf s := by
  cases e : sub.isPrefixOf s with
  | true =>
    obtain ⟨u, hu⟩ := List.isPrefixOf_iff_prefix.1 e
    rw [← hu, List.take_left]; simp
  | false =>
    rw [beq_eq_false_iff_ne]
    intro h2
    have : sub <+: s := ⟨s.drop sub.length, by rw [← h2]; simp [List.length_take, Nat.min_eq_left h]⟩
    rw [List.isPrefixOf_iff_prefix.2 this] at e
    cases e
set_option maxHeartbeats 1600000 in
set_option maxRecDepth 100000 in
theorem idx_any (s sub : List UInt8) (w : World) (hs : s.length ≤ 4611686018427387903) (hsub : sub.length ≤ 4611686018427387903) :
    Calls Tryd.prog 41 #[.string (txt s), .string (txt sub)] w fun e w' => e = .returned (.int .i64 (idxI (idxZ sub s))) ∧ w' = w := by
  obtain ⟨R, hR⟩ : ∃ R, idxI (idxZ sub s) = R := ⟨_, rfl⟩
  rw [hR]
  have hts := txt_size s
  have htu := txt_size sub
  have HR : Hid (R = idxI ((idxZ sub (s.drop 0)).map (· + 0))) := by show _ = _; rw [← hR, List.drop_zero]; cases idxZ sub s <;> rfl
  clear hR
  go_enter Tryd.func41, Tryd.ntmps41
  go_wp2
  go_loopg [5] (s.length + 2) (fun gk v5 wr => ∃ k : Nat, v5 = .int .i64 k ∧ k ≤ s.length ∧ s.length - k < gk ∧ Hid (R = idxI ((idxZ sub (s.drop k)).map (· + k))) ∧ wr = w)
  case atStart => exact ⟨0, rfl, by omega, by omega, HR.out, rfl⟩
  case round =>
    clear HR
    obtain ⟨k, rfl, hk, hg, HR, hwr⟩ := hrel
    obtain rfl := hwr.symm
    by_cases hle : k + sub.length ≤ s.length
    · obtain ⟨gk, rfl⟩ : ∃ m, gk = m + 1 := ⟨gk - 1, by omega⟩
      have hsl := eslice s k sub.length hle w
      have hdl : sub.length ≤ (s.drop k).length := by rw [List.length_drop]; omega
      have hlt : (k : Int) + sub.length ≤ s.length := by omega
      have hpt := prefix_take sub (s.drop k) hdl
      cases hp : sub.isPrefixOf (s.drop k) with
      | true =>
        have he : ((txt ((s.drop k).take sub.length)).toList == (txt sub).toList) = true := by rw [txt_toList, txt_toList, hpt, hp]
        have HF : Hid (R = (k : Int)) := by show _ = _; rw [HR.out, idxZ_at _ _ hp]; simp [idxI]
        clear HR hp hpt
        go_wp2
        go_ret
        exact ⟨by rw [HF.out]; rfl, rfl⟩
      | false =>
        have he : ((txt ((s.drop k).take sub.length)).toList == (txt sub).toList) = false := by rw [txt_toList, txt_toList, hpt, hp]
        have hkl : k < s.length := by
          refine Nat.lt_of_le_of_ne (by omega) fun e => ?_
          subst e
          rw [List.drop_length] at hp
          have : sub = [] := List.eq_nil_of_length_eq_zero (by omega)
          rw [this] at hp
          cases hp
        have hd := List.drop_eq_getElem_cons hkl
        have HF : Hid (R = idxI ((idxZ sub (s.drop (k + 1))).map (· + (k + 1)))) := by
          show _ = _
          rw [hd] at hp
          rw [HR.out, hd, idxZ_next _ _ _ hp]
          cases idxZ sub (s.drop (k + 1)) with
          | none => rfl
          | some i => simp [idxI]; omega
        clear HR hp hpt hd
        go_wp2
        go_roundg gk
        case rel => exact ⟨k + 1, by go_num, by omega, by omega, HF.out, rfl⟩
        case measure => omega
    · have hlt : ¬ (k : Int) + sub.length ≤ s.length := by omega
      have HF : Hid (R = -1) := by
        show _ = _
        rw [HR.out, idxZ_short _ _ (by rw [List.length_drop]; omega)]; rfl
      clear HR
      go_wp2
      go_ret
      exact ⟨by rw [HF.out]; rfl, rfl⟩
theorem Tryd.infoU8 : (Tryd.prog.info? 5).map (fun i => (i.zero, i.size, i.bytes)) = some (some (.int .u8 0), 1, 1) := by kernel_rfl
theorem wpList_app_str {P : Program} {w : World} {ops : Array Oper} {rest : List Oper} {o : Oper} {a : Act} {Q : Exit → Act → World → Prop} (hgd : o.guard = none) (sl x : Operand) (t u : TypeId)
    (ho : o.op = .call { callee := .builtin .append, args := #[sl, x], argTypes := #[t, u] })
    (base : Nat) (e : TypeId) (i : TypeInfo) (ht : P.underlying t = some (.slice e)) (hu : P.underlying u = some .string) (hi : P.info? e = some i) (hz : i.zero = some (.int .u8 0))
    (hsize : i.size = 1) (hby : i.bytes = 1)
    (v : Value) (n : Nat) (xs : List Value) (hs : a.eval sl = v) (hown : w.ownsRow base e 1 v n xs) (s : ByteArray) (hx : a.eval x = .string s)
    (hbytes : n + s.size ≤ 140737488355328) (hbase : base ≤ w.heap.size)
    (h : ∀ ao cap w', w'.ownsRow base e 1 (.slice ao (n + s.size) cap) (n + s.size) (xs ++ strCells s) → Below base w w' → wpList P ops Q rest (a.put o.dst (.slice ao (n + s.size) cap)) w') : wpList P ops Q (o :: rest) a w := by
  refine wpList_plain hgd fun K hK => ?_
  obtain ⟨v', w', hr, h2, h3, _⟩ := run_append_own_string (P := P) w base t u o.type e i ht hu hi hz hsize hby v n xs hown s (by unfold maxLen; omega) hbytes hbase
  obtain ⟨ao, cap, rfl⟩ := owns_slice h2
  unfold Oper.wp execOp
  simp only [ho, resolve, invoke, builtin, Sem.run_bind, Sem.run_pure, Result.andThen_ok, List.map_toArray, List.map_cons, List.map_nil, hs, hx, hr]
  exact hK _ _ (h ao cap w' h2 ((Below.refl base w).grown h3 (by omega) (fun k hk => (hown.lt k hk).1)))
theorem run_row_txt {w : World} {base : Nat} {v : Value} {n : Nat} (l : List UInt8) (hown : w.ownsRow base 5 1 v n (byteCells l)) :
    (convert 52 9 v).run Tryd.prog w = .ok (.string (txt l)) w := by
  have hn : l.length = n := by have := hown.1; rw [show (byteCells l).length = l.length by simp [byteCells]] at this; omega
  rcases hown.2 with ⟨rfl, h0⟩ | ⟨g, cap, cur, rfl, _⟩
  · have : l = [] := List.eq_nil_of_length_eq_zero (by omega)
    subst this
    exact run_convert_nil_bytes w _ _ 5 0 Tryd.underlying52 Tryd.underlying5 Tryd.underlying9
  · have hc := World.ownsRow.cells hown (g := g) rfl
    refine run_bytes_text l hn fun j hj => ?_
    have ea : (⟨g, 0, none⟩ : Addr).add j = ⟨g, j, none⟩ := by unfold Addr.add; split <;> simp_all
    rw [← ea]
    have hjl : j < (byteCells l).length := by rw [show (byteCells l).length = l.length by simp [byteCells]]; omega
    rw [hc j _ (List.getElem?_eq_getElem hjl), List.getElem?_eq_getElem hjl]
set_option maxHeartbeats 3200000 in
set_option maxRecDepth 100000 in
theorem rep_any (s old new : List UInt8) (w : World) (ho : old ≠ []) (hol : old.length ≤ 100) (hn : new.length ≤ 2) (hs : s.length ≤ 34359738368000) :
    Calls Tryd.prog 35 #[.string (txt s), .string (txt old), .string (txt new)] w fun e w' => e = .returned (.string (txt (repAll s old new))) ∧ Below w.heap.size w w' := by
  obtain ⟨i0, hi, hz0, hz1, hz2⟩ := info_parts Tryd.infoU8
  obtain ⟨R, hR⟩ : ∃ R, repAll s old new = R := ⟨_, rfl⟩
  have hRl : R.length ≤ 2 * s.length := by rw [← hR]; exact repAll_len s old new ho hn
  rw [hR]
  have HR := Lib.hid hR.symm
  have HO := Lib.hid ho
  have htn := txt_size new
  have hto := txt_size old
  have hopos := List.length_pos_iff.2 ho
  clear hR ho
  go_enter Tryd.func35, Tryd.ntmps35
  go_wp2
  go_loopg [0, 7, 8] (s.length + 1) (fun gk v0 v7 v8 wr => ∃ (c o : List UInt8) (ao : Option Addr) (cap : Nat), v0 = .string (txt c) ∧ v7 = .slice ao o.length cap ∧ c.length ≤ s.length ∧ c.length < gk ∧ Hid (R = o ++ repAll c old new) ∧ Hid (wr.ownsRow w.heap.size 5 1 (.slice ao o.length cap) o.length (byteCells o)) ∧ Hid (Below w.heap.size w wr))
  case atStart => exact ⟨s, [], none, 0, rfl, rfl, Nat.le_refl _, by omega, HR.out, ⟨rfl, .inl ⟨rfl, rfl⟩⟩, Below.refl _ _⟩
  case round =>
    clear HR
    obtain ⟨c, o, ao, cap, rfl, rfl, hc, hg, HR, HW, HB⟩ := hrel
    have hbs := HB.out.size
    have htc := txt_size c
    have hRo : o.length + (repAll c old new).length = R.length := by rw [HR.out, List.length_append]
    cases hi2 : idxZ old c with
    | none =>
      have hrc := repAll_none c old new hi2
      have hcl : (repAll c old new).length = c.length := by rw [hrc]
      have cI := Lib.hid (idx_any c old wr (by omega) (by omega))
      rw [hi2] at cI
      have HF : Hid (R = o ++ c) := by show _ = _; rw [HR.out, hrc]
      clear HR hi2 hrc
      go_wp2_with fail
      refine cI.out.mono ?_
      rintro e w1 ⟨rfl, hw1⟩
      obtain rfl := hw1.symm
      have hm : idxI none = -1 := rfl
      rw [hm]
      go_wp2_with (at_builtin; refine wpList_app_str rfl _ _ 52 9 rfl w.heap.size 5 i0 Tryd.underlying52 Tryd.underlying9 hi hz0 hz1 hz2 _ o.length _ rfl HW.out (txt c) rfl (by omega) hbs ?_)
      intro ao2 cap2 w3 hown3 hb3
      rw [strCells_txt] at hown3
      have hcv := run_row_txt (o ++ c) (by rw [show byteCells (o ++ c) = byteCells o ++ byteCells c by simp [byteCells]]; exact hown3)
      have HB3 := Lib.hid (HB.out.trans hb3)
      clear hown3 hb3
      go_wp2
      go_ret
      exact ⟨by rw [HF.out]; rfl, HB3.out⟩
    | some i =>
      have hrc := repAll_some c old new i HO.out hi2
      obtain ⟨h1, h2⟩ := idxZ_some c old i hi2
      have hcl : (repAll c old new).length = i + new.length + (repAll (c.drop (i + old.length)) old new).length := by
        rw [hrc, List.length_append, List.length_append, List.length_take]; omega
      have cI := Lib.hid (idx_any c old wr (by omega) (by omega))
      rw [hi2] at cI
      have HF : Hid (R = (o ++ c.take i ++ new) ++ repAll (c.drop (i + old.length)) old new) := by show _ = _; rw [HR.out, hrc]; simp
      have hsl1 : (txt c).extract 0 i = txt (c.take i) := by rw [txt_extract]; simp
      have hsl2 : (txt c).extract (i + old.length) (txt c).size = txt (c.drop (i + old.length)) := by rw [txt_extract, txt_size, List.take_length]
      have hsl3 : (txt c).extract (i + old.length) c.length = txt (c.drop (i + old.length)) := by rw [← htc]; exact hsl2
      have htl : (txt (c.take i)).size = i := by rw [txt_size, List.length_take]; omega
      have htl2 : (c.take i).length = i := by rw [List.length_take]; omega
      obtain ⟨gk, rfl⟩ : ∃ m, gk = m + 1 := ⟨gk - 1, by omega⟩
      have hdl : (c.drop (i + old.length)).length = c.length - (i + old.length) := List.length_drop
      clear HR hi2 hrc h2
      go_wp2_with fail
      refine cI.out.mono ?_
      rintro e w1 ⟨rfl, hw1⟩
      obtain rfl := hw1.symm
      have hm : idxI (some i) = (i : Int) := rfl
      rw [hm]
      go_wp2_with (at_builtin; refine wpList_app_str rfl _ _ 52 9 rfl w.heap.size 5 i0 Tryd.underlying52 Tryd.underlying9 hi hz0 hz1 hz2 _ o.length _ rfl HW.out (txt (c.take i)) rfl (by omega) hbs ?_)
      intro ao2 cap2 w3 hown3 hb3
      try rw [htl] at hown3
      rw [strCells_txt] at hown3
      have HB3 := Lib.hid (HB.out.trans hb3)
      have hs3 := HB3.out.size
      have HW3 := Lib.hid hown3
      try rw [htl]
      clear hown3 hb3
      go_wp2_with (at_builtin; refine wpList_app_str rfl _ _ 52 9 rfl w.heap.size 5 i0 Tryd.underlying52 Tryd.underlying9 hi hz0 hz1 hz2 _ (o.length + i) _ rfl HW3.out (txt new) rfl (by omega) hs3 ?_)
      intro ao3 cap3 w4 hown4 hb4
      try rw [htn] at hown4
      rw [strCells_txt] at hown4
      try rw [htn]
      have HB4 := Lib.hid (HB3.out.trans hb4)
      have hol2 : (o ++ c.take i ++ new).length = o.length + i + new.length := by rw [List.length_append, List.length_append, htl2]
      have HW4 : Hid (w4.ownsRow w.heap.size 5 1 (.slice ao3 (o ++ c.take i ++ new).length cap3) (o ++ c.take i ++ new).length (byteCells (o ++ c.take i ++ new))) := by
        show World.ownsRow _ _ _ _ _ _ _
        rw [hol2, show byteCells (o ++ c.take i ++ new) = byteCells o ++ (byteCells (c.take i) ++ byteCells new) by simp [byteCells]]
        exact hown4
      clear hown4 hb4
      go_wp2
      go_roundg gk
      case rel => exact ⟨c.drop (i + old.length), o ++ c.take i ++ new, ao3, cap3, congrArg Value.string hsl3, by rw [hol2], by omega, by omega, HF.out, HW4.out, HB4.out⟩
      case measure => omega
end Go.Proofs.YtdfhidnhkeapbaaDoor
