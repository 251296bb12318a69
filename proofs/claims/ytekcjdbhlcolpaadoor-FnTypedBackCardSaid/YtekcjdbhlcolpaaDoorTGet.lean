/- Numbers out of properties of one key: the contracts of UintOf, Uint32Of, IntOf. -/
import Derived.Test.YtekcjdbhlcolpaaDoorShelf
import Derived.Test.YtekcjdbhlcolpaaDoorTProps
namespace Go.Proofs.YtekcjdbhlcolpaaDoor
open Go.RowKit U8
open Go.Lib hiding intOf

/-- The sentinel of a number that is too great is there. -/
def Er (W : World) : Prop := ∃ tp p, W.cell? ⟨4, 0, none⟩ = some (.iface tp p)
theorem Er.below {w w' : World} (h : Er w) (hb : Below w.heap.size w w') : Er w' := by
  obtain ⟨tp, p, h⟩ := h
  have hlt := World.block_lt_of_cell? w _ h
  exact ⟨tp, p, (hb.cell hlt).trans h⟩
theorem Pv.below {b m : Nat} {v : ByteArray} {w w' : World} (h : Pv b m v w) (hb : Below w.heap.size w w') : Pv b m v w' := by
  obtain ⟨h1, h2, h3⟩ := h
  have l1 := World.block_lt_of_cell? w _ h1
  have l2 := World.block_lt_of_cell? w _ h2
  exact ⟨(hb.cell l1).trans h1, (hb.cell l2).trans h2, (hb.block m (Array.getElem?_eq_some_iff.1 h3).1).trans h3⟩
theorem bytesWorld_below {B : Nat} {w W : World} (hb : Below B w W) (hB : B ≤ W.heap.size) (e : TypeId) (s : ByteArray) : Below B w (bytesWorld W e s) :=
  hb.trans ⟨by simp [bytesWorld, World.freeze, World.alloc, World.drew, -World.alloc_eq, -World.drew_eq], by simp [bytesWorld, World.freeze, World.alloc, World.drew, -World.alloc_eq, -World.drew_eq], by simp [bytesWorld, World.freeze, World.alloc, World.drew, -World.alloc_eq, -World.drew_eq],
    by rw [bytesWorld_size]; omega, fun k hk => bytesWorld_at_old W e s k (by omega)⟩

theorem pu64_ok (s : ByteArray) (u : Nat) (w : World) (hs : s.size ≤ 1000) (h : Lib.parseUintB 64 s.data.toList = .ok u) :
    Calls Tryd.prog 53 #[.string s, .int .i64 10, .int .i64 64] w fun e w' => e = .returned (.tuple #[.int .u64 u, .nilIface]) ∧ Below w.heap.size w w' := by
  refine (Tryd.strconv_ParseUint_10_at64_ok s (by omega) u h w).mono ?_
  rintro e w' ⟨rfl, hw⟩
  refine ⟨rfl, ?_⟩
  rcases hw with rfl | rfl
  · exact Below.refl _ _
  · exact bytesWorld_below (Below.refl _ _) (Nat.le_refl _) _ _

theorem pu32_ok (s : ByteArray) (u : Nat) (w : World) (hs : s.size ≤ 1000) (h : Lib.parseUintB 32 s.data.toList = .ok u) :
    Calls Tryd.prog 53 #[.string s, .int .i64 10, .int .i64 32] w fun e w' => e = .returned (.tuple #[.int .u64 u, .nilIface]) ∧ Below w.heap.size w w' := by
  refine (Tryd.strconv_ParseUint_10_at32_ok s (by omega) u h w).mono ?_
  rintro e w' ⟨rfl, hw⟩
  refine ⟨rfl, ?_⟩
  rcases hw with rfl | rfl
  · exact Below.refl _ _
  · exact bytesWorld_below (Below.refl _ _) (Nat.le_refl _) _ _

theorem pu32_no (s : ByteArray) (w : World) (hs : s.size ≤ 1000) (h : Lib.parseUintB 32 s.data.toList = .range) (hE : Er w) :
    Calls Tryd.prog 53 #[.string s, .int .i64 10, .int .i64 32] w fun e w' => ∃ x t p, e = .returned (.tuple #[.int .u64 x, .iface t p]) ∧ Below w.heap.size w w' := by
  obtain ⟨tp, p, hE⟩ := hE
  refine (Tryd.strconv_ParseUint_10_at32_range s (by omega) h _ w hE (.inr ⟨tp, p, rfl⟩)).mono ?_
  rintro e w' ⟨N, rfl, _, _, hb⟩
  exact ⟨_, _, _, rfl, hb⟩

theorem pi64_ok (s : ByteArray) (u : Int) (w : World) (hs : s.size ≤ 1000) (h : Lib.parseIntB 64 s.data.toList = .ok u) :
    Calls Tryd.prog 55 #[.string s, .int .i64 10, .int .i64 64] w fun e w' => e = .returned (.tuple #[.int .i64 u, .nilIface]) ∧ Below w.heap.size w w' := by
  refine (Tryd.strconv_ParseInt_10_at64_ok s (by omega) u h w).mono ?_
  rintro e w' ⟨rfl, hw⟩
  refine ⟨rfl, ?_⟩
  rcases hw with rfl | ⟨t, rfl⟩
  · exact Below.refl _ _
  · exact bytesWorld_below (Below.refl _ _) (Nat.le_refl _) _ _

theorem pi64_no (s : ByteArray) (w : World) (hs : s.size ≤ 1000) (h : Lib.parseIntB 64 s.data.toList = .range) (hE : Er w) :
    Calls Tryd.prog 55 #[.string s, .int .i64 10, .int .i64 64] w fun e w' => ∃ x t p, e = .returned (.tuple #[.int .i64 x, .iface t p]) ∧ Below w.heap.size w w' := by
  obtain ⟨tp, p, hE⟩ := hE
  refine (Tryd.strconv_ParseInt_10_at64_range s (by omega) h _ w hE (.inr ⟨tp, p, rfl⟩)).mono ?_
  rintro e w' ⟨N, rfl, _, _, hb⟩
  exact ⟨_, _, _, rfl, hb⟩

theorem getUint64_ok (b m : Nat) (v : ByteArray) (u : Nat) (w : World) (hs : v.size ≤ 1000) (h : Lib.parseUintB 64 v.data.toList = .ok u) (hP : Pv b m v w) :
    Calls Tryd.prog 42 #[.pointer (some ⟨b, 0, none⟩), .string ⟨#[107]⟩] w fun e w' => e = .returned (.tuple #[.int .u64 u, .nilIface]) ∧ Below w.heap.size w w' := by
  have cP := Lib.hid fun W => pu64_ok v u W hs h
  have cG := Lib.hid (get_one b m 1 0 ⟨#[107]⟩ v w hP.1 hP.2.1 hP.2.2)
  clear h hP
  go_enter Tryd.func42, Tryd.ntmps42
  go_wp2_with fail
  refine cG.out.mono ?_
  rintro e w1 ⟨rfl, hw1⟩
  obtain rfl := hw1.symm
  go_wp2_with fail
  refine (cP.out _).mono ?_
  rintro e w2 ⟨rfl, hb2⟩
  go_wp2
  go_ret2
  exact ⟨rfl, hb2⟩
theorem GetUint64_ok (b m : Nat) (v : ByteArray) (u : Nat) (d : Int) (w : World) (hs : v.size ≤ 1000) (h : Lib.parseUintB 64 v.data.toList = .ok u) (hP : Pv b m v w) :
    Calls Tryd.prog 27 #[.pointer (some ⟨b, 0, none⟩), .string ⟨#[107]⟩, .int .u64 d] w fun e w' => e = .returned (.int .u64 u) ∧ Below w.heap.size w w' := by
  have cG := Lib.hid (getUint64_ok b m v u w hs h hP)
  clear h hP
  go_enter Tryd.func27, Tryd.ntmps27
  go_wp2_with fail
  refine cG.out.mono ?_
  rintro e w1 ⟨rfl, hb1⟩
  go_wp2
  go_ret
  exact ⟨rfl, hb1⟩
theorem uintOf_ok (v : ByteArray) (u : Nat) (d : Int) (w : World) (hs : v.size ≤ 1000) (h : Lib.parseUintB 64 v.data.toList = .ok u) :
    Calls Tryd.prog 11 #[.string v, .bool true, .int .u64 d] w fun e w' => e = .returned (.int .u64 u) ∧ Below w.heap.size w w' := by
  have cG := Lib.hid fun b m W hP => GetUint64_ok b m v u d W hs h hP
  clear h
  go_enter Tryd.func11, Tryd.ntmps11
  go_wp2_with fail
  refine (valued_yes v w).mono ?_
  rintro e w1 ⟨b, m, rfl, hP, hb1⟩
  go_wp2_with fail
  refine (cG.out b m _ hP).mono ?_
  rintro e w2 ⟨rfl, hb2⟩
  go_wp2
  go_ret
  exact ⟨rfl, chain hb1 hb2⟩

theorem getUint32_ok (b m : Nat) (v : ByteArray) (u : Nat) (w : World) (hs : v.size ≤ 1000) (h : Lib.parseUintB 32 v.data.toList = .ok u) (hw : IntKind.u32.wrap (u : Int) = u) (hP : Pv b m v w) :
    Calls Tryd.prog 43 #[.pointer (some ⟨b, 0, none⟩), .string ⟨#[107]⟩] w fun e w' => e = .returned (.tuple #[.int .u32 u, .nilIface]) ∧ Below w.heap.size w w' := by
  have cP := Lib.hid fun W => pu32_ok v u W hs h
  have cG := Lib.hid (get_one b m 1 0 ⟨#[107]⟩ v w hP.1 hP.2.1 hP.2.2)
  clear h hP
  go_enter Tryd.func43, Tryd.ntmps43
  go_wp2_with fail
  refine cG.out.mono ?_
  rintro e w1 ⟨rfl, hw1⟩
  obtain rfl := hw1.symm
  go_wp2_with fail
  refine (cP.out _).mono ?_
  rintro e w2 ⟨rfl, hb2⟩
  go_wp2
  go_ret2
  exact ⟨rfl, hb2⟩
theorem GetUint32_ok (b m : Nat) (v : ByteArray) (u : Nat) (d : Int) (w : World) (hs : v.size ≤ 1000) (h : Lib.parseUintB 32 v.data.toList = .ok u) (hw : IntKind.u32.wrap (u : Int) = u) (hP : Pv b m v w) :
    Calls Tryd.prog 28 #[.pointer (some ⟨b, 0, none⟩), .string ⟨#[107]⟩, .int .u32 d] w fun e w' => e = .returned (.int .u32 u) ∧ Below w.heap.size w w' := by
  have cG := Lib.hid (getUint32_ok b m v u w hs h hw hP)
  clear h hP
  go_enter Tryd.func28, Tryd.ntmps28
  go_wp2_with fail
  refine cG.out.mono ?_
  rintro e w1 ⟨rfl, hb1⟩
  go_wp2
  go_ret
  exact ⟨rfl, hb1⟩
theorem uint32Of_ok (v : ByteArray) (u : Nat) (d : Int) (w : World) (hs : v.size ≤ 1000) (h : Lib.parseUintB 32 v.data.toList = .ok u) (hw : IntKind.u32.wrap (u : Int) = u) :
    Calls Tryd.prog 13 #[.string v, .bool true, .int .u32 d] w fun e w' => e = .returned (.int .u32 u) ∧ Below w.heap.size w w' := by
  have cG := Lib.hid fun b m W hP => GetUint32_ok b m v u d W hs h hw hP
  clear h
  go_enter Tryd.func13, Tryd.ntmps13
  go_wp2_with fail
  refine (valued_yes v w).mono ?_
  rintro e w1 ⟨b, m, rfl, hP, hb1⟩
  go_wp2_with fail
  refine (cG.out b m _ hP).mono ?_
  rintro e w2 ⟨rfl, hb2⟩
  go_wp2
  go_ret
  exact ⟨rfl, chain hb1 hb2⟩

theorem getUint32_no (b m : Nat) (v : ByteArray) (w : World) (hs : v.size ≤ 1000) (h : Lib.parseUintB 32 v.data.toList = .range) (hP : Pv b m v w) (hE : Er w) :
    Calls Tryd.prog 43 #[.pointer (some ⟨b, 0, none⟩), .string ⟨#[107]⟩] w fun e w' => ∃ x t p, e = .returned (.tuple #[.int .u32 x, .iface t p]) ∧ Below w.heap.size w w' := by
  have cP := Lib.hid fun W (hE : Er W) => pu32_no v W hs h hE
  have cG := Lib.hid (get_one b m 1 0 ⟨#[107]⟩ v w hP.1 hP.2.1 hP.2.2)
  have HE := Lib.hid hE
  clear h hP hE
  go_enter Tryd.func43, Tryd.ntmps43
  go_wp2_with fail
  refine cG.out.mono ?_
  rintro e w1 ⟨rfl, hw1⟩
  obtain rfl := hw1.symm
  go_wp2_with fail
  refine (cP.out _ HE.out).mono ?_
  rintro e w2 ⟨x, t, p, rfl, hb2⟩
  go_wp2
  go_ret2
  exact ⟨_, _, _, rfl, hb2⟩
theorem GetUint32_no (b m : Nat) (v : ByteArray) (d : Int) (w : World) (hs : v.size ≤ 1000) (h : Lib.parseUintB 32 v.data.toList = .range) (hP : Pv b m v w) (hE : Er w) :
    Calls Tryd.prog 28 #[.pointer (some ⟨b, 0, none⟩), .string ⟨#[107]⟩, .int .u32 d] w fun e w' => e = .returned (.int .u32 d) ∧ Below w.heap.size w w' := by
  have cG := Lib.hid (getUint32_no b m v w hs h hP hE)
  clear h hP hE
  go_enter Tryd.func28, Tryd.ntmps28
  go_wp2_with fail
  refine cG.out.mono ?_
  rintro e w1 ⟨x, t, p, rfl, hb1⟩
  go_wp2
  go_ret
  exact ⟨rfl, hb1⟩
theorem uint32Of_no (v : ByteArray) (d : Int) (w : World) (hs : v.size ≤ 1000) (h : Lib.parseUintB 32 v.data.toList = .range) (hE : Er w) :
    Calls Tryd.prog 13 #[.string v, .bool true, .int .u32 d] w fun e w' => e = .returned (.int .u32 d) ∧ Below w.heap.size w w' := by
  have cG := Lib.hid fun b m W hP hE => GetUint32_no b m v d W hs h hP hE
  have HE := Lib.hid hE
  clear h hE
  go_enter Tryd.func13, Tryd.ntmps13
  go_wp2_with fail
  refine (valued_yes v w).mono ?_
  rintro e w1 ⟨b, m, rfl, hP, hb1⟩
  go_wp2_with fail
  refine (cG.out b m _ hP (HE.out.below hb1)).mono ?_
  rintro e w2 ⟨rfl, hb2⟩
  go_wp2
  go_ret
  exact ⟨rfl, chain hb1 hb2⟩

theorem getInt64_ok (b m : Nat) (v : ByteArray) (u : Int) (w : World) (hs : v.size ≤ 1000) (h : Lib.parseIntB 64 v.data.toList = .ok u) (hP : Pv b m v w) :
    Calls Tryd.prog 44 #[.pointer (some ⟨b, 0, none⟩), .string ⟨#[107]⟩] w fun e w' => e = .returned (.tuple #[.int .i64 u, .nilIface]) ∧ Below w.heap.size w w' := by
  have cP := Lib.hid fun W => pi64_ok v u W hs h
  have cG := Lib.hid (get_one b m 1 0 ⟨#[107]⟩ v w hP.1 hP.2.1 hP.2.2)
  clear h hP
  go_enter Tryd.func44, Tryd.ntmps44
  go_wp2_with fail
  refine cG.out.mono ?_
  rintro e w1 ⟨rfl, hw1⟩
  obtain rfl := hw1.symm
  go_wp2_with fail
  refine (cP.out _).mono ?_
  rintro e w2 ⟨rfl, hb2⟩
  go_wp2
  go_ret2
  exact ⟨rfl, hb2⟩
theorem GetInt64_ok (b m : Nat) (v : ByteArray) (u : Int) (d : Int) (w : World) (hs : v.size ≤ 1000) (h : Lib.parseIntB 64 v.data.toList = .ok u) (hP : Pv b m v w) :
    Calls Tryd.prog 29 #[.pointer (some ⟨b, 0, none⟩), .string ⟨#[107]⟩, .int .i64 d] w fun e w' => e = .returned (.int .i64 u) ∧ Below w.heap.size w w' := by
  have cG := Lib.hid (getInt64_ok b m v u w hs h hP)
  clear h hP
  go_enter Tryd.func29, Tryd.ntmps29
  go_wp2_with fail
  refine cG.out.mono ?_
  rintro e w1 ⟨rfl, hb1⟩
  go_wp2
  go_ret
  exact ⟨rfl, hb1⟩
theorem intOf_ok (v : ByteArray) (u : Int) (d : Int) (w : World) (hs : v.size ≤ 1000) (h : Lib.parseIntB 64 v.data.toList = .ok u) :
    Calls Tryd.prog 14 #[.string v, .bool true, .int .i64 d] w fun e w' => e = .returned (.int .i64 u) ∧ Below w.heap.size w w' := by
  have cG := Lib.hid fun b m W hP => GetInt64_ok b m v u d W hs h hP
  clear h
  go_enter Tryd.func14, Tryd.ntmps14
  go_wp2_with fail
  refine (valued_yes v w).mono ?_
  rintro e w1 ⟨b, m, rfl, hP, hb1⟩
  go_wp2_with fail
  refine (cG.out b m _ hP).mono ?_
  rintro e w2 ⟨rfl, hb2⟩
  go_wp2
  go_ret
  exact ⟨rfl, chain hb1 hb2⟩

theorem getInt64_no (b m : Nat) (v : ByteArray) (w : World) (hs : v.size ≤ 1000) (h : Lib.parseIntB 64 v.data.toList = .range) (hP : Pv b m v w) (hE : Er w) :
    Calls Tryd.prog 44 #[.pointer (some ⟨b, 0, none⟩), .string ⟨#[107]⟩] w fun e w' => ∃ x t p, e = .returned (.tuple #[.int .i64 x, .iface t p]) ∧ Below w.heap.size w w' := by
  have cP := Lib.hid fun W (hE : Er W) => pi64_no v W hs h hE
  have cG := Lib.hid (get_one b m 1 0 ⟨#[107]⟩ v w hP.1 hP.2.1 hP.2.2)
  have HE := Lib.hid hE
  clear h hP hE
  go_enter Tryd.func44, Tryd.ntmps44
  go_wp2_with fail
  refine cG.out.mono ?_
  rintro e w1 ⟨rfl, hw1⟩
  obtain rfl := hw1.symm
  go_wp2_with fail
  refine (cP.out _ HE.out).mono ?_
  rintro e w2 ⟨x, t, p, rfl, hb2⟩
  go_wp2
  go_ret2
  exact ⟨_, _, _, rfl, hb2⟩
theorem GetInt64_no (b m : Nat) (v : ByteArray) (d : Int) (w : World) (hs : v.size ≤ 1000) (h : Lib.parseIntB 64 v.data.toList = .range) (hP : Pv b m v w) (hE : Er w) :
    Calls Tryd.prog 29 #[.pointer (some ⟨b, 0, none⟩), .string ⟨#[107]⟩, .int .i64 d] w fun e w' => e = .returned (.int .i64 d) ∧ Below w.heap.size w w' := by
  have cG := Lib.hid (getInt64_no b m v w hs h hP hE)
  clear h hP hE
  go_enter Tryd.func29, Tryd.ntmps29
  go_wp2_with fail
  refine cG.out.mono ?_
  rintro e w1 ⟨x, t, p, rfl, hb1⟩
  go_wp2
  go_ret
  exact ⟨rfl, hb1⟩
theorem intOf_no (v : ByteArray) (d : Int) (w : World) (hs : v.size ≤ 1000) (h : Lib.parseIntB 64 v.data.toList = .range) (hE : Er w) :
    Calls Tryd.prog 14 #[.string v, .bool true, .int .i64 d] w fun e w' => e = .returned (.int .i64 d) ∧ Below w.heap.size w w' := by
  have cG := Lib.hid fun b m W hP hE => GetInt64_no b m v d W hs h hP hE
  have HE := Lib.hid hE
  clear h hE
  go_enter Tryd.func14, Tryd.ntmps14
  go_wp2_with fail
  refine (valued_yes v w).mono ?_
  rintro e w1 ⟨b, m, rfl, hP, hb1⟩
  go_wp2_with fail
  refine (cG.out b m _ hP (HE.out.below hb1)).mono ?_
  rintro e w2 ⟨rfl, hb2⟩
  go_wp2
  go_ret
  exact ⟨rfl, chain hb1 hb2⟩

end Go.Proofs.YtekcjdbhlcolpaaDoor
