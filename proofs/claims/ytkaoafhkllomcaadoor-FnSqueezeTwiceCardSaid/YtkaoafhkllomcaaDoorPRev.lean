/- The contract of Reverse at the seat of patterns. -/
import Derived.Test.YtkaoafhkllomcaaDoorPBase
import Derived.Deep.RegionLaw
namespace Go.Proofs.YtkaoafhkllomcaaDoor
open Go.RowKit U8
open Go.Lib hiding intOf

open Go.Lib hiding intOf

theorem Tryd.info5 : (Tryd.prog.info? 5).map (fun i => (i.zero, i.size, i.bytes)) = some (some (.int .u8 0), 1, 1) := by kernel_rfl
/-- An append that fits, into a block that is known. -/
theorem run_append_row {P : Program} (w : World) (t ty e : TypeId) (i : TypeInfo) (ht : P.underlying t = some (.slice e)) (hi : P.info? e = some i) (hs1 : i.size = 1)
    (g sLen sCap : Nat) (cur : Array Value) (hg : w.heap[g]? = some (.cells cur e (0, 0))) (a : Addr) (m c : Nat) (news : List Value) (hl : news.length = m)
    (hnews : ∀ j u, news[j]? = some u → w.cell? (a.add j) = some u) (h1 : ∀ u ∈ news, u.oneCell' = true) (hroom : sLen + m ≤ sCap) (hfit : sLen + m ≤ cur.size) :
    (Builtin.append_ #[t, t] ty #[.slice (some ⟨g, 0, none⟩) sLen sCap, .slice (some a) m c]).run P w =
      .ok (.slice (some ⟨g, 0, none⟩) (sLen + m) sCap) (w.setRow g (cur.toList.take sLen ++ news ++ cur.toList.drop (sLen + m)).toArray) := by
  have hfc := run_firstCells_some (P := P) w i.size m a m c news (by rw [hs1, Nat.mul_one]; exact hl) hnews
  have hst := run_storeCells_at P g sLen e news 0 cur w hg (by omega) h1
  simp only [Nat.add_zero, hl] at hst
  rw [hs1] at hfc
  simp [Builtin.append_, run_underlying ht, sizeOf, typeInfo, hi, hs1, Builtin.lenOf, hroom, hfc, Addr.add_lit, hst]
theorem wpList_append_row {P : Program} (w : World) {ops : Array Oper} {rest : List Oper} {o : Oper} {a : Act} {Q : Exit → Act → World → Prop} (hgd : o.guard = none) (s x : Operand) (t : TypeId)
    (ho : o.op = .call { callee := .builtin .append, args := #[s, x], argTypes := #[t, t] }) (e : TypeId) (i : TypeInfo) (ht : P.underlying t = some (.slice e)) (hi : P.info? e = some i) (hs1 : i.size = 1)
    (g sLen sCap : Nat) (hs : a.eval s = .slice (some ⟨g, 0, none⟩) sLen sCap) (cur : Array Value) (hg : w.heap[g]? = some (.cells cur e (0, 0)))
    (ad : Addr) (m c : Nat) (hx : a.eval x = .slice (some ad) m c) (news : List Value) (hl : news.length = m)
    (hnews : ∀ j u, news[j]? = some u → w.cell? (ad.add j) = some u) (h1 : ∀ u ∈ news, u.oneCell' = true) (hroom : sLen + m ≤ sCap) (hfit : sLen + m ≤ cur.size)
    (h : wpList P ops Q rest (a.put o.dst (.slice (some ⟨g, 0, none⟩) (sLen + m) sCap)) (w.setRow g (cur.toList.take sLen ++ news ++ cur.toList.drop (sLen + m)).toArray)) : wpList P ops Q (o :: rest) a w := by
  refine wpList_plain hgd fun K hK => ?_
  have hr := run_append_row (P := P) w t o.type e i ht hi hs1 g sLen sCap cur hg ad m c news hl hnews h1 hroom hfit
  unfold Oper.wp execOp
  simp only [ho, resolve, invoke, builtin, Sem.run_bind, Sem.run_pure, Result.andThen_ok, List.map_toArray, List.map_cons, List.map_nil, hs, hx, hr]
  exact hK _ _ h
/-- The same, as one step of a region that draws. -/
theorem step_append_row {P : Program} {ops : Array Oper} {o : Oper} {a : Act} {w : World} {K : Act → World → Prop} {Q : Exit → Act → World → Prop} {E : Prop}
    (hgd : o.guard = none) (s x : Operand) (t : TypeId) (ho : o.op = .call { callee := .builtin .append, args := #[s, x], argTypes := #[t, t] }) (e : TypeId) (i : TypeInfo) (ht : P.underlying t = some (.slice e)) (hi : P.info? e = some i) (hs1 : i.size = 1)
    (g sLen sCap : Nat) (hs : a.eval s = .slice (some ⟨g, 0, none⟩) sLen sCap) (cur : Array Value) (hg : w.heap[g]? = some (.cells cur e (0, 0)))
    (ad : Addr) (m c : Nat) (hx : a.eval x = .slice (some ad) m c) (news : List Value) (hl : news.length = m)
    (hnews : ∀ j u, news[j]? = some u → w.cell? (ad.add j) = some u) (h1 : ∀ u ∈ news, u.oneCell' = true) (hroom : sLen + m ≤ sCap) (hfit : sLen + m ≤ cur.size)
    (hK : K (a.put o.dst (.slice (some ⟨g, 0, none⟩) (sLen + m) sCap)) (w.setRow g (cur.toList.take sLen ++ news ++ cur.toList.drop (sLen + m)).toArray)) :
    if Region.wanted o (yielded ops a.tmps) = true then Oper.wp P o a w K Q else E := by
  have hw : Region.wanted o (yielded ops a.tmps) = true := by simp [Region.wanted, hgd]
  rw [if_pos hw]
  have hr := run_append_row (P := P) w t o.type e i ht hi hs1 g sLen sCap cur hg ad m c news hl hnews h1 hroom hfit
  unfold Oper.wp
  simp only [execOp, ho, resolve, invoke, builtin, Sem.run_bind, Sem.run_pure, Result.andThen_ok, List.map_toArray, List.map_cons, List.map_nil, hs, hx, hr]
  exact hK
open Go.Lib hiding intOf

theorem enc_reverse_length : ∀ rs : List Nat, (enc rs.reverse).length = (enc rs).length
  | [] => rfl
  | r :: rs => by rw [List.reverse_cons, enc_append, List.length_append, enc_one, enc_cons, List.length_append, enc_reverse_length rs]; omega
set_option maxHeartbeats 800000 in
set_option maxRecDepth 100000 in
theorem reverse_any (rs : List Nat) (w : World) (hs : Scs rs) (hl : (enc rs).length ≤ 1000000) (hT : Tabs w) :
    Calls Tryd.prog 68 #[.string (txt (enc rs))] w fun e w' => e = .returned (.string (txt (enc rs.reverse))) ∧ Below w.heap.size w w' := by
  obtain ⟨i0, hi, hz0, hz1, hz2⟩ := info_parts Tryd.info5
  have hsz := txt_size (enc rs)
  go_enter Tryd.func68, Tryd.ntmps68
  go_wp2_with (at_make; refine wpList_make_full _ rfl _ _ 54 rfl w.heap.size 5 i0 (.int .u8 0) 1 Tryd.underlying54 hi hz0 hz1 .i64 .i64 _ _ (enc rs).length rfl rfl ?c1 ?c2 ?c3 ?c4 ?c5 ?_)
  case c1 => rfl
  case c2 => rfl
  case c3 => rw [hz2]; omega
  case c4 => unfold maxLen; omega
  case c5 => exact Nat.le_refl _
  intro w1 hown hgrow
  have hb1 : Below w.heap.size w w1 := (Below.refl _ _).grown hgrow (Nat.le_refl _) (fun k hk => by cases hk)
  have hrow : w1.heap[w.heap.size]? = some (.cells (List.replicate (enc rs).length (Value.int .u8 0)).toArray 5 (0, 0)) := by
    rcases hown.2 with ⟨hv, _⟩ | ⟨g, cap, cur, hv, _, hg, _, _, hcs, htake⟩
    · cases hv
    · cases hv
      rw [hg]
      have e : cur.toList = List.replicate (enc rs).length (Value.int .u8 0) := by
        rw [← toList_madeCells_one, ← htake, Nat.mul_one, List.take_of_length_le (by simp; omega)]
      rw [← e]
  have HRow := Lib.hid hrow
  clear hown hgrow hrow
  go_wp2
  go_loopg [0, 4, 6] (rs.length + 1) (fun gk s tail sl wr => ∃ done rest n, rs = done ++ rest ∧ s = .string (txt (enc rest)) ∧ tail = .int .i64 (enc rest).length ∧ sl = .slice (some ⟨w.heap.size, 0, none⟩) n (enc rs).length ∧
    Hid (wr.heap[w.heap.size]? = some (.cells (List.replicate (enc rest).length (Value.int .u8 0) ++ byteCells (enc done.reverse)).toArray 5 (0, 0))) ∧ rest.length < gk ∧ Below w.heap.size w wr)
  case atStart => exact ⟨[], rs, _, rfl, rfl, rfl, rfl, by have h := HRow.out; have e : byteCells (enc ([] : List Nat).reverse) = [] := rfl; show _ = _; rw [e, List.append_nil]; exact h, by omega, hb1⟩
  case round =>
    obtain ⟨done, rest, n, hrs, rfl, rfl, rfl, hrow, hg, hb⟩ := hrel
    have hTr := hT.below hb
    cases rest with
    | nil =>
      have h0 : (txt (enc [])).size ≤ 0 := Nat.le_refl _
      rw [List.append_nil] at hrs
      subst hrs
      have hcv : (convert 54 9 (.slice (some ⟨w.heap.size, 0, none⟩) (enc rs).length (enc rs).length)).run Tryd.prog wr = .ok (.string (txt (enc rs.reverse))) wr := by
        refine run_bytes_text (enc rs.reverse) (enc_reverse_length rs) fun j hj => ?_
        rw [cell_of_heap hrow.out]
        simp [enc_nil]
      clear hrow
      go_wp2
      go_ret
      exact ⟨rfl, hb⟩
    | cons r rest =>
      have hr : Sc r := by rw [hrs] at hs; exact hs.right.head
      have hp := enc_size_pos r rest
      have hle := enc1_size_le r rest
      have hlen : (enc (r :: rest)).length = (enc rest).length + (enc1 r).length := by rw [enc_cons, List.length_append]; omega
      have hlt : (enc rest).length + (enc1 r).length ≤ (enc rs).length := by rw [hrs, enc_append, List.length_append, hlen]; omega
      rw [List.length_cons] at hg
      rw [hlen] at hrow
      have HR := Lib.hid hrs
      clear hrs
      obtain ⟨gk, rfl⟩ : ∃ m, gk = m + 1 := ⟨gk - 1, by omega⟩
      rw [hlen]
      clear hlen
      have hcv : ∀ W, (convert 9 54 (.string ((txt (enc (r :: rest))).extract 0 (enc1 r).length))).run Tryd.prog W = .ok (.slice (some ⟨W.heap.size, 0, none⟩) (enc1 r).length (grownCap W (enc1 r).length 0 5)) (bytesWorld W 5 (txt (enc1 r))) := fun W => by
        rw [head_enc, run_text_bytes W (txt (enc1 r)), txt_size]
      have HC := Lib.hid hcv
      clear hcv
      go_wp2_with (go_at_call 56; refine (dec_any r rest _ hr hTr).mono ?_; rintro e w2 ⟨rfl, hb2⟩)
      have hw2 : w.heap.size < w2.heap.size := by
        have h1 := (Array.getElem?_eq_some_iff.1 hrow.out).1
        have h2 := hb2.size
        omega
      have hrow2 : Hid ((bytesWorld w2.drew 5 (txt (enc1 r))).heap[w.heap.size]? = some (.cells (List.replicate ((enc rest).length + (enc1 r).length) (Value.int .u8 0) ++ byteCells (enc done.reverse)).toArray 5 (0, 0))) := by
        show _ = _
        rw [bytesWorld_at_old w2.drew _ _ _ (by simpa using hw2)]
        show w2.heap[_]? = _
        rw [hb2.block _ (by have h1 := (Array.getElem?_eq_some_iff.1 hrow.out).1; omega)]
        exact hrow.out
      have hnews : Hid (∀ j u, (byteCells (enc1 r))[j]? = some u → (bytesWorld w2.drew 5 (txt (enc1 r))).cell? ((⟨w2.heap.size, 0, none⟩ : Addr).add j) = some u) := by
        have := bytesWorld_cells w2.drew (txt (enc1 r))
        rw [txt_list] at this
        exact this
      have hfit : Hid ((enc rest).length + (enc1 r).length ≤ (List.replicate ((enc rest).length + (enc1 r).length) (Value.int .u8 0) ++ byteCells (enc done.reverse)).toArray.size) := by
        show _ ≤ _
        simp
      have hcv := HC.out
      have hcap : (enc rest).length ≤ (enc rs).length := by omega
      clear HC
      go_region_law (refine step_append_row rfl (.tmp 25) (.tmp 29) 54 rfl 5 i0 Tryd.underlying54 hi hz1 w.heap.size (enc rest).length (enc rs).length (by simp [Act.eval]) _ hrow2.out ⟨w2.heap.size, 0, none⟩ (enc1 r).length _ (by simp [Act.eval]; rfl) (byteCells (enc1 r)) (byteCells_length _) hnews.out (oneCell_bytes _) hlt hfit.out ?_)
      go_wp2
      go_roundg gk
      case rel =>
        refine ⟨done ++ [r], rest, _, by rw [HR.out]; simp, by rw [rest_enc], rfl, rfl, ?_, by omega, ?_⟩
        · show _ = _
          rw [setRow_heap _ _ _ _ _ _ hrow2.out]
          congr 2
          have e : byteCells (enc (done ++ [r]).reverse) = byteCells (enc1 r) ++ byteCells (enc done.reverse) := by
            rw [List.reverse_append, enc_append, List.reverse_singleton, enc_one, byteCells_app]
          rw [e, List.take_append_of_le_length (by simp), List.take_replicate, Nat.min_eq_left (by omega)]
        · exact below_setRow (bytesWorld_below (hb.trans (hb2.mono hb.size)).drew (by simpa using Nat.le_of_lt hw2) _ _) (Nat.le_refl _) _
      case measure => omega
open Go.Lib hiding intOf

theorem implReverse_any (rs : List Nat) (w : World) (hs : Scs rs) (hl : (enc rs).length ≤ 1000000) (hT : Tabs w) :
    Calls Tryd.prog 34 #[.string (txt (enc rs))] w fun e w' => e = .returned (.string (txt (enc rs.reverse))) ∧ Below w.heap.size w w' := by
  go_enter Tryd.func34, Tryd.ntmps34
  go_wp2_with (go_at_call 68; refine (reverse_any rs _ hs hl hT).mono ?_; rintro e w' ⟨rfl, hb⟩)
  go_ret
  exact ⟨rfl, hb⟩

end Go.Proofs.YtkaoafhkllomcaaDoor
