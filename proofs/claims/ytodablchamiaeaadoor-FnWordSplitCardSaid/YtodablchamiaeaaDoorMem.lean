/- Laws on rows of bytes: an append that fits, bytes to text, text to bytes; no function of the program is walked here. -/
import Derived.Test.YtodablchamiaeaaDoorRunes
import Derived.Laws.CopyOwn
import Derived.Laws.BytesArg
import Derived.Lib.ConvBytes
import Derived.Lib.UnsafeStr
namespace Go.Proofs.YtodablchamiaeaaDoor
open Go.RowKit U8
open Go.Lib hiding intOf

theorem Tryd.info5 : (Tryd.prog.info? 5).map (fun i => (i.zero, i.size, i.bytes)) = some (some (.int .u8 0), 1, 1) := by kernel_rfl

/-- An append that fits, into a block that is known. -/
theorem run_append_row {P : Program} (w : World) (t ty e : TypeId) (i : TypeInfo) (ht : P.underlying t = some (.slice e)) (hi : P.info? e = some i) (hs1 : i.size = 1)
    (g sLen sCap : Nat) (cur : Array Value) (hg : w.heap[g]? = some (.cells cur e (0, 0))) (a : Addr) (m c : Nat) (news : List Value) (hl : news.length = m)
    (hnews : ∀ j u, news[j]? = some u → w.cell? (a.add j) = some u) (h1 : ∀ u ∈ news, u.oneCell' = true) (hroom : sLen + m ≤ sCap) (hfit : sLen + m ≤ cur.size) :
    (Builtin.append_ #[t, t] ty #[.slice (some ⟨g, 0, none⟩) sLen sCap, .slice (some a) m c]).run P w =
      .ok (.slice (some ⟨g, 0, none⟩) (sLen + m) sCap) (w.setRow g (cur.toList.take sLen ++ news ++ cur.toList.drop (sLen + m)).toArray) := by
  have hfc := run_firstCells_some (P := P) w i.size m a m c news (by rw [hs1, Nat.mul_one]; exact hl) hnews
  have hst := run_storeCells_at P g sLen e news 0 cur w hg (by omega) h1
  simp only [Nat.add_zero, hl] at hst
  rw [hs1] at hfc
  simp [Builtin.append_, run_underlying ht, sizeOf, typeInfo, hi, hs1, Builtin.lenOf, hroom, hfc, Addr.add_lit, hst]

theorem wpList_append_row {P : Program} (w : World) {ops : Array Oper} {rest : List Oper} {o : Oper} {a : Act} {Q : Exit → Act → World → Prop} (hgd : o.guard = none) (s x : Operand) (t : TypeId)
    (ho : o.op = .call { callee := .builtin .append, args := #[s, x], argTypes := #[t, t] }) (e : TypeId) (i : TypeInfo) (ht : P.underlying t = some (.slice e)) (hi : P.info? e = some i) (hs1 : i.size = 1)
    (g sLen sCap : Nat) (hs : a.eval s = .slice (some ⟨g, 0, none⟩) sLen sCap) (cur : Array Value) (hg : w.heap[g]? = some (.cells cur e (0, 0)))
    (ad : Addr) (m c : Nat) (hx : a.eval x = .slice (some ad) m c) (news : List Value) (hl : news.length = m)
    (hnews : ∀ j u, news[j]? = some u → w.cell? (ad.add j) = some u) (h1 : ∀ u ∈ news, u.oneCell' = true) (hroom : sLen + m ≤ sCap) (hfit : sLen + m ≤ cur.size)
    (h : wpList P ops Q rest (a.put o.dst (.slice (some ⟨g, 0, none⟩) (sLen + m) sCap)) (w.setRow g (cur.toList.take sLen ++ news ++ cur.toList.drop (sLen + m)).toArray)) : wpList P ops Q (o :: rest) a w := by
  refine wpList_plain hgd fun K hK => ?_
  have hr := run_append_row (P := P) w t o.type e i ht hi hs1 g sLen sCap cur hg ad m c news hl hnews h1 hroom hfit
  unfold Oper.wp execOp
  simp only [ho, resolve, invoke, builtin, Sem.run_bind, Sem.run_pure, Result.andThen_ok, List.map_toArray, List.map_cons, List.map_nil, hs, hx, hr]
  exact hK _ _ h

/-- The same, as one step of a region that draws. -/
theorem step_append_row {P : Program} {ops : Array Oper} {o : Oper} {a : Act} {w : World} {K : Act → World → Prop} {Q : Exit → Act → World → Prop} {E : Prop}
    (hgd : o.guard = none) (s x : Operand) (t : TypeId) (ho : o.op = .call { callee := .builtin .append, args := #[s, x], argTypes := #[t, t] }) (e : TypeId) (i : TypeInfo) (ht : P.underlying t = some (.slice e)) (hi : P.info? e = some i) (hs1 : i.size = 1)
    (g sLen sCap : Nat) (hs : a.eval s = .slice (some ⟨g, 0, none⟩) sLen sCap) (cur : Array Value) (hg : w.heap[g]? = some (.cells cur e (0, 0)))
    (ad : Addr) (m c : Nat) (hx : a.eval x = .slice (some ad) m c) (news : List Value) (hl : news.length = m)
    (hnews : ∀ j u, news[j]? = some u → w.cell? (ad.add j) = some u) (h1 : ∀ u ∈ news, u.oneCell' = true) (hroom : sLen + m ≤ sCap) (hfit : sLen + m ≤ cur.size)
    (hK : K (a.put o.dst (.slice (some ⟨g, 0, none⟩) (sLen + m) sCap)) (w.setRow g (cur.toList.take sLen ++ news ++ cur.toList.drop (sLen + m)).toArray)) :
    if Region.wanted o (yielded ops a.tmps) = true then Oper.wp P o a w K Q else E := by
  have hw : Region.wanted o (yielded ops a.tmps) = true := by simp [Region.wanted, hgd]
  rw [if_pos hw]
  have hr := run_append_row (P := P) w t o.type e i ht hi hs1 g sLen sCap cur hg ad m c news hl hnews h1 hroom hfit
  unfold Oper.wp
  simp only [execOp, ho, resolve, invoke, builtin, Sem.run_bind, Sem.run_pure, Result.andThen_ok, List.map_toArray, List.map_cons, List.map_nil, hs, hx, hr]
  exact hK

theorem oneCell_bytes (l : List UInt8) : ∀ u ∈ byteCells l, u.oneCell' = true := by
  intro u hu
  obtain ⟨b, _, rfl⟩ := List.mem_map.1 hu
  rfl
theorem byteCells_app (a b : List UInt8) : byteCells (a ++ b) = byteCells a ++ byteCells b := by simp [byteCells]
theorem byteCells_get (l : List UInt8) (j : Nat) : (byteCells l)[j]? = l[j]?.map fun b => Value.int .u8 b.toNat := by simp [byteCells]

/-- A row of bytes, turned into a text. -/
theorem run_bytes_text {w : World} {g n cap : Nat} (l : List UInt8) (hn : l.length = n) (hc : ∀ j, j < n → w.cell? ⟨g, j, none⟩ = (byteCells l)[j]?) :
    (convert 46 9 (.slice (some ⟨g, 0, none⟩) n cap)).run Tryd.prog w = .ok (.string (txt l)) w := by
  have := run_convert_bytes_arg (P := Tryd.prog) w 46 5 Tryd.underlying46 Tryd.underlying5 g 0 n cap (l.map fun b => (b.toNat : Int)) (by simpa using hn) (fun i hi => by
    rw [Nat.zero_add, hc i hi, byteCells_get, List.getElem?_eq_getElem (by omega)]
    simp [List.getD, List.getElem?_eq_getElem (show i < l.length by omega)]) 9 Tryd.underlying9
  have hm : ((l.map fun b => (b.toNat : Int)).map fun n => UInt8.ofNat n.toNat) = l := by
    rw [List.map_map]
    exact (List.map_congr_left (fun b _ => by simp)).trans (List.map_id l)
  have e : strOfNums (l.map fun b => (b.toNat : Int)) = txt l := by
    unfold strOfNums txt
    rw [hm]
  rw [this, e]

/-- A text, turned into bytes: a new row of the call's own. -/
theorem run_text_bytes (W : World) (s : ByteArray) :
    (convert 9 46 (.string s)).run Tryd.prog W = .ok (.slice (some ⟨W.heap.size, 0, none⟩) s.size (grownCap W s.size 0 5)) (bytesWorld W 5 s) :=
  Go.Lib.run_convert_string_bytes W _ _ 5 s Tryd.underlying9 Tryd.underlying46 Tryd.underlying5
theorem bytesWorld_below {B : Nat} {w W : World} (hb : Below B w W) (hB : B ≤ W.heap.size) (e : TypeId) (s : ByteArray) : Below B w (bytesWorld W e s) :=
  hb.trans ⟨by simp [bytesWorld, World.freeze, World.alloc, World.drew, -World.alloc_eq, -World.drew_eq], by simp [bytesWorld, World.freeze, World.alloc, World.drew, -World.alloc_eq, -World.drew_eq], by simp [bytesWorld, World.freeze, World.alloc, World.drew, -World.alloc_eq, -World.drew_eq],
    by rw [bytesWorld_size]; omega, fun k hk => bytesWorld_at_old W e s k (by omega)⟩
theorem bytesWorld_cells (W : World) (s : ByteArray) : ∀ j u, (byteCells s.data.toList)[j]? = some u → (bytesWorld W 5 s).cell? ((⟨W.heap.size, 0, none⟩ : Addr).add j) = some u := by
  intro j u hu
  rw [byteCells_get] at hu
  obtain ⟨b, hb, rfl⟩ := Option.map_eq_some_iff.1 hu
  have hj : j < s.size := by rw [size_list]; exact (List.getElem?_eq_some_iff.1 hb).1
  have hadd : (⟨W.heap.size, 0, none⟩ : Addr).add j = ⟨W.heap.size, j, none⟩ := by unfold Addr.add; split <;> simp_all
  rw [hadd, bytesWorld_cell W _ s j hj]
  simp [List.getD, hb]

/-- ONE ELEMENT MORE, at a list of the call's own whose elements take one cell: what stands elsewhere stands. -/
theorem wpList_app1 {P : Program} {wr : World} {ops : Array Oper} {rest : List Oper} {o : Oper} {a : Act} {Q : Exit → Act → World → Prop} (hgd : o.guard = none) (s x : Operand) (t e : TypeId)
    (ho : o.op = .call { callee := .builtin .append, args := #[s, x], argTypes := #[t, t] }) (i : TypeInfo) (z : Value) (bytes : Nat) (ht : P.underlying t = some (.slice e)) (hi : P.info? e = some i) (hz : i.zero = some z)
    (hsize : i.size = 1) (hby : i.bytes = bytes) (hzs : z.cells.size = 1) (base : Nat) (v : Value) (n : Nat) (xs : List Value) (hs : a.eval s = v) (hown : wr.ownsRow base e 1 v n xs) (u : Value) (hu : u.oneCell' = true)
    (hx : a.eval x = .slice (some ⟨wr.heap.size, 0, none⟩) 1 1) (hn : (n + 1) * bytes ≤ 140737488355328) (hn2 : n + 1 ≤ 140737488355328) (hbase : base ≤ wr.heap.size)
    (h : ∀ ao cap w', w'.ownsRow base e 1 (.slice ao (n + 1) cap) (n + 1) (xs ++ [u]) → Below base wr w' → (∀ k, k < wr.heap.size → v.ownBlock ≠ some k → w'.heap[k]? = wr.heap[k]?) → wpList P ops Q rest (a.put o.dst (.slice ao (n + 1) cap)) w') :
    wpList P ops Q (o :: rest) a (wr.alloc (.cells #[u] e)) := by
  refine wpList_append_own _ hgd s x t ho base e i z 1 bytes ht hi hz hsize hby hzs (by decide) v n xs hs (hown.alloc _) ⟨wr.heap.size, 0, none⟩ 1 1 [u] hx rfl ?_ ?_ (by unfold maxLen; omega) hn (by simp; omega) ?_
  · intro j y hj
    match j, hj with
    | 0, hj => simp at hj; subst hj; simp [Addr.add]
  · intro y hy; simp at hy; subst hy; exact hu
  · intro v' w' hown' hgrow _
    obtain ⟨ao, cap, rfl⟩ := owns_slice hown'
    refine h ao cap w' hown' ?_ ?_
    · exact ((Below.refl base wr).alloc hbase _).grown hgrow (by simp; omega) (fun k hk => (hown.lt k hk).1)
    · intro k hk hne
      rw [hgrow.block k (by simp; omega) (fun e => hne e.symm), alloc_old wr _ k hk]

end Go.Proofs.YtodablchamiaeaaDoor
