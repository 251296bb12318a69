/- properties.zzIndex; an append that tells where the row lies behind it. Conditions: the sizes. -/
import Derived.Test.YtdfhidnhkeapbaaGreatDoorLxLoadP
namespace Go.Proofs.YtdfhidnhkeapbaaGreatDoor.U8
open Go.Lib

/-- The first place of a text in another one. -/
def idxZ (sub : List UInt8) : List UInt8 → Option Nat
  | [] => if sub.isPrefixOf [] then some 0 else none
  | b :: t => if sub.isPrefixOf (b :: t) then some 0 else (idxZ sub t).map (· + 1)
theorem idxZ_at (sub s : List UInt8) (h : sub.isPrefixOf s = true) : idxZ sub s = some 0 := by cases s <;> simp only [idxZ, h, if_true]
theorem idxZ_next (sub : List UInt8) (b : UInt8) (t : List UInt8) (h : sub.isPrefixOf (b :: t) = false) : idxZ sub (b :: t) = (idxZ sub t).map (· + 1) := by simp [idxZ, h]
theorem prefix_len {sub s : List UInt8} (h : sub.isPrefixOf s = true) : sub.length ≤ s.length := (List.isPrefixOf_iff_prefix.1 h).length_le
theorem idxZ_short : ∀ (s sub : List UInt8), s.length < sub.length → idxZ sub s = none
  | [], sub, h => by
    have : sub.isPrefixOf [] = false := by
      cases e : sub.isPrefixOf [] with
      | false => rfl
      | true => have := prefix_len e; omega
    simp [idxZ, this]
  | b :: t, sub, h => by
    have : sub.isPrefixOf (b :: t) = false := by
      cases e : sub.isPrefixOf (b :: t) with
      | false => rfl
      | true => have := prefix_len e; omega
    rw [idxZ_next _ _ _ this, idxZ_short t sub (by rw [List.length_cons] at h; omega)]; rfl
theorem idxZ_some : ∀ (s sub : List UInt8) (i : Nat), idxZ sub s = some i → i + sub.length ≤ s.length ∧ s.drop i = sub ++ s.drop (i + sub.length)
  | [], sub, i, h => by
    unfold idxZ at h
    split at h
    · rename_i hp
      have := prefix_len hp
      have e : sub = [] := List.eq_nil_of_length_eq_zero (by simpa using this)
      subst e
      simp at h
      subst h
      simp
    · cases h
  | b :: t, sub, i, h => by
    unfold idxZ at h
    split at h
    · rename_i hp
      simp at h
      subst h
      have h1 := prefix_len hp
      obtain ⟨u, hu⟩ := List.isPrefixOf_iff_prefix.1 hp
      refine ⟨by omega, ?_⟩
      rw [Nat.zero_add, List.drop_zero, ← hu, List.drop_left]
    · cases e : idxZ sub t with
      | none => rw [e] at h; cases h
      | some j =>
        rw [e] at h
        simp at h
        subst h
        obtain ⟨h1, h2⟩ := idxZ_some t sub j e
        refine ⟨by rw [List.length_cons]; omega, ?_⟩
        rw [List.drop_succ_cons, h2, show j + 1 + sub.length = (j + sub.length) + 1 by omega, List.drop_succ_cons]
end Go.Proofs.YtdfhidnhkeapbaaGreatDoor.U8
namespace Go.Proofs.YtdfhidnhkeapbaaGreatDoor
open Go.RowKit U8
open Go.Lib hiding intOf

open Go.Lib hiding intOf

def idxI : Option Nat → Int
  | none => -1
  | some i => i
theorem eslice (s : List UInt8) (i n : Nat) (h : i + n ≤ s.length) (W : World) :
    (Instr.slice 9 (.string (txt s)) (some (.int .i64 i)) (some (.int .i64 ((i : Int) + n))) none).run Tryz.prog W = .ok (.string (txt ((s.drop i).take n))) W := by
  have hts := txt_size s
  have hex : (txt s).extract i (i + n) = txt ((s.drop i).take n) := by
    rw [txt_extract, List.drop_take, show i + n - i = n by omega]
  have e2 : ((i : Int) + n).toNat = i + n := by omega
  simp [Instr.slice, run_underlying Tryz.underlying9, Instr.sliceBounds, run_sliceBound, (by omega : (0 : Int) ≤ i), (by omega : (0 : Int) ≤ (i : Int) + n), e2, hts, (by omega : (i : Int) + n ≤ (s.length : Int)), (by omega : (i : Int) ≤ (i : Int) + n), hex]
theorem prefix_take (sub s : List UInt8) (h : sub.length ≤ s.length) : (s.take sub.length == sub) = sub.isPrefixOf s := by
  cases e : sub.isPrefixOf s with
  | true =>
    obtain ⟨u, hu⟩ := List.isPrefixOf_iff_prefix.1 e
    rw [← hu, List.take_left]; simp
  | false =>
    rw [beq_eq_false_iff_ne]
    intro h2
    have : sub <+: s := ⟨s.drop sub.length, by rw [← h2]; simp [List.length_take, Nat.min_eq_left h]⟩
    rw [List.isPrefixOf_iff_prefix.2 this] at e
    cases e
set_option maxHeartbeats 1600000 in
set_option maxRecDepth 100000 in
theorem idx_any (s sub : List UInt8) (w : World) (hs : s.length ≤ 4611686018427387903) (hsub : sub.length ≤ 4611686018427387903) :
    Calls Tryz.prog 84 #[.string (txt s), .string (txt sub)] w fun e w' => e = .returned (.int .i64 (idxI (idxZ sub s))) ∧ w' = w := by
  obtain ⟨R, hR⟩ : ∃ R, idxI (idxZ sub s) = R := ⟨_, rfl⟩
  rw [hR]
  have hts := txt_size s
  have htu := txt_size sub
  have HR : Hid (R = idxI ((idxZ sub (s.drop 0)).map (· + 0))) := by show _ = _; rw [← hR, List.drop_zero]; cases idxZ sub s <;> rfl
  clear hR
  go_enter Tryz.func84, Tryz.ntmps84
  go_wp2
  go_loopg [5] (s.length + 2) (fun gk v5 wr => ∃ k : Nat, v5 = .int .i64 k ∧ k ≤ s.length ∧ s.length - k < gk ∧ Hid (R = idxI ((idxZ sub (s.drop k)).map (· + k))) ∧ wr = w)
  case atStart => exact ⟨0, rfl, by omega, by omega, HR.out, rfl⟩
  case round =>
    clear HR
    obtain ⟨k, rfl, hk, hg, HR, hwr⟩ := hrel
    obtain rfl := hwr.symm
    by_cases hle : k + sub.length ≤ s.length
    · obtain ⟨gk, rfl⟩ : ∃ m, gk = m + 1 := ⟨gk - 1, by omega⟩
      have hsl := eslice s k sub.length hle w
      have hdl : sub.length ≤ (s.drop k).length := by rw [List.length_drop]; omega
      have hlt : (k : Int) + sub.length ≤ s.length := by omega
      have hpt := prefix_take sub (s.drop k) hdl
      cases hp : sub.isPrefixOf (s.drop k) with
      | true =>
        have he : ((txt ((s.drop k).take sub.length)).toList == (txt sub).toList) = true := by rw [txt_toList, txt_toList, hpt, hp]
        have HF : Hid (R = (k : Int)) := by show _ = _; rw [HR.out, idxZ_at _ _ hp]; simp [idxI]
        clear HR hp hpt
        go_wp2
        go_ret
        exact ⟨by rw [HF.out]; rfl, rfl⟩
      | false =>
        have he : ((txt ((s.drop k).take sub.length)).toList == (txt sub).toList) = false := by rw [txt_toList, txt_toList, hpt, hp]
        have hkl : k < s.length := by
          refine Nat.lt_of_le_of_ne (by omega) fun e => ?_
          subst e
          rw [List.drop_length] at hp
          have : sub = [] := List.eq_nil_of_length_eq_zero (by omega)
          rw [this] at hp
          cases hp
        have hd := List.drop_eq_getElem_cons hkl
        have HF : Hid (R = idxI ((idxZ sub (s.drop (k + 1))).map (· + (k + 1)))) := by
          show _ = _
          rw [hd] at hp
          rw [HR.out, hd, idxZ_next _ _ _ hp]
          cases idxZ sub (s.drop (k + 1)) with
          | none => rfl
          | some i => simp [idxI]; omega
        clear HR hp hpt hd
        go_wp2
        go_roundg gk
        case rel => exact ⟨k + 1, by go_num, by omega, by omega, HF.out, rfl⟩
        case measure => omega
    · have hlt : ¬ (k : Int) + sub.length ≤ s.length := by omega
      have HF : Hid (R = -1) := by
        show _ = _
        rw [HR.out, idxZ_short _ _ (by rw [List.length_drop]; omega)]; rfl
      clear HR
      go_wp2
      go_ret
      exact ⟨by rw [HF.out]; rfl, rfl⟩
/-- The row behind an append lies where it lay, with what room it had; or in a new block, and nothing else has turned. -/
def Moved2 (n m : Nat) (w : World) (v v' : Value) (w' : World) : Prop :=
  (∃ g cap, v = .slice (some ⟨g, 0, none⟩) n cap ∧ v' = .slice (some ⟨g, 0, none⟩) (n + m) cap) ∨ ((∀ x, v'.ownBlock = some x → w.heap.size ≤ x) ∧ ∀ k, k < w.heap.size → w'.heap[k]? = w.heap[k]?)
theorem run_append_two {P : Program} (w : World) (base : Nat) (t ty e : TypeId) (i : TypeInfo) (z : Value) (bytes : Nat) (ht : P.underlying t = some (.slice e)) (hi : P.info? e = some i) (hz : i.zero = some z)
    (hsize : i.size = 1) (hby : i.bytes = bytes) (hzs : z.cells.size = 1)
    (v : Value) (n : Nat) (xs : List Value) (hown : w.ownsRow base e 1 v n xs)
    (a : Addr) (m c : Nat) (news : List Value) (hl : news.length = m) (hnews : ∀ j u, news[j]? = some u → w.cell? (a.add j) = some u) (h1 : ∀ u ∈ news, u.oneCell' = true)
    (h63 : n + m ≤ maxLen) (hbytes : (n + m) * bytes ≤ 140737488355328) (hbase : base ≤ w.heap.size) :
    ∃ v' w', (Builtin.append_ #[t, t] ty #[v, .slice (some a) m c]).run P w = .ok v' w' ∧ w'.ownsRow base e 1 v' (n + m) (xs ++ news) ∧ w.grownBy w' v.ownBlock ∧ Moved2 n m w v v' w' := by
  obtain ⟨v', w', r1, r2, r3, _⟩ := run_append_own (P := P) w base t ty e i z 1 bytes ht hi hz hsize hby hzs (by omega) v n xs hown a m c news (by omega) hnews h1 h63 hbytes hbase
  refine ⟨v', w', r1, r2, r3, ?_⟩
  rcases hown.2 with ⟨rfl, rfl⟩ | ⟨g, cap, cur, rfl, hbg, hg, hnc, hcm, hcs, htake⟩
  · obtain ⟨v2, w2, q1, q2, _⟩ := run_append_own (P := P) w w.heap.size t ty e i z 1 bytes ht hi hz hsize hby hzs (by omega) (.slice none 0 0) 0 xs ⟨hown.1, .inl ⟨rfl, rfl⟩⟩ a m c news (by omega) hnews h1 h63 hbytes (Nat.le_refl _)
    rw [r1] at q1
    cases q1
    refine .inr ⟨fun x hx => (q2.lt x hx).1, fun k hk => r3.block k hk (by simp [Value.ownBlock])⟩
  · by_cases hroom : n + m ≤ cap
    · have hr := run_append_roomF (P := P) w t ty e i ht hi g n cap cur (0, 0) hg (by simp) a m c news (by rw [hsize]; omega) hnews h1 hroom (by rw [hsize]; omega)
      rw [hr] at r1
      cases r1
      exact .inl ⟨g, cap, rfl, rfl⟩
    · have holds : ∀ j u, xs[j]? = some u → w.cell? ((⟨g, 0, none⟩ : Addr).add j) = some u := World.ownsRow.cells hown rfl
      have hr := run_append_grow (P := P) w t ty e i z ht hi hz ⟨g, 0, none⟩ n cap xs (by rw [hsize]; exact hown.1) holds a m c news (by rw [hsize]; omega) hnews (by omega) (by unfold maxLen at h63; omega) (by rw [hby]; exact growslice_fits (by omega) hbytes)
      rw [hr] at r1
      cases r1
      refine .inr ⟨fun x hx => ?_, fun k hk => al_old w.drew _ k hk⟩
      have : w.heap.size = x := by simpa [Value.ownBlock] using hx
      omega
theorem wpList_app2 {P : Program} {wr : World} {ops : Array Oper} {rest : List Oper} {o : Oper} {a : Act} {Q : Exit → Act → World → Prop} (hgd : o.guard = none) (s x : Operand) (t e : TypeId)
    (ho : o.op = .call { callee := .builtin .append, args := #[s, x], argTypes := #[t, t] }) (i : TypeInfo) (z : Value) (bytes : Nat) (ht : P.underlying t = some (.slice e)) (hi : P.info? e = some i) (hz : i.zero = some z)
    (hsize : i.size = 1) (hby : i.bytes = bytes) (hzs : z.cells.size = 1) (base : Nat) (v : Value) (n : Nat) (xs : List Value) (hs : a.eval s = v) (hown : wr.ownsRow base e 1 v n xs) (u : Value) (hu : u.oneCell' = true)
    (g : Nat) (hx : a.eval x = .slice (some ⟨g, 0, none⟩) 1 1) (hg : g = wr.heap.size) (hn : (n + 1) * bytes ≤ 140737488355328) (hn2 : n + 1 ≤ 140737488355328) (hbase : base ≤ wr.heap.size)
    (h : ∀ ao cap w', w'.ownsRow base e 1 (.slice ao (n + 1) cap) (n + 1) (xs ++ [u]) → Below base wr w' → (∀ k, k < wr.heap.size → v.ownBlock ≠ some k → w'.heap[k]? = wr.heap[k]?) →
      Moved2 n 1 wr v (.slice ao (n + 1) cap) w' →
      wr.heap.size ≤ w'.heap.size → wpList P ops Q rest (a.put o.dst (.slice ao (n + 1) cap)) w') :
    wpList P ops Q (o :: rest) a (wr.alloc (.cells #[u] e)) := by
  subst hg
  refine wpList_plain hgd fun K hK => ?_
  obtain ⟨v', w', hr, h2, h3, h4⟩ := run_append_two (P := P) (wr.alloc (.cells #[u] e)) base t o.type e i z bytes ht hi hz hsize hby hzs v n xs (hown.alloc _) ⟨wr.heap.size, 0, none⟩ 1 1 [u] rfl (fun j y hj => by
      match j, hj with
      | 0, hj => simp at hj; subst hj; simp [Addr.add]) (fun y hy => by simp at hy; subst hy; exact hu) (by unfold maxLen; omega) hn (by simp; omega)
  obtain ⟨ao, cap, rfl⟩ := owns_slice h2
  unfold Oper.wp execOp
  simp only [ho, resolve, invoke, builtin, Sem.run_bind, Sem.run_pure, Result.andThen_ok, List.map_toArray, List.map_cons, List.map_nil, hs, hx, hr]
  have hbl : Below base wr w' := ((Below.refl base wr).alloc hbase _).grown h3 (by simp; omega) (fun k hk => (hown.lt k hk).1)
  refine hK _ _ (h ao cap w' h2 hbl (fun k hk hne => ?_) ?_ hbl.size)
  · rw [h3.block k (by simp; omega) (fun e => hne e.symm), alloc_old wr _ k hk]
  · show _ ∨ _
    rcases h4 with ⟨g, cap2, e1, e2⟩ | ⟨h5, h6⟩
    · exact .inl ⟨g, cap2, e1, e2⟩
    · exact .inr ⟨fun x hx => by have := h5 x hx; simp at this; omega, fun k hk => (h6 k (by simp; omega)).trans (alloc_old wr _ k hk)⟩
end Go.Proofs.YtdfhidnhkeapbaaGreatDoor
