/- laws.zzFits3, zzFits2; pairs as an argument. -/
import Derived.Test.YtmmnljepbnifnaaDoorEWr
import Derived.Test.YtmmnljepbnifnaaDoorGFits
namespace Go.Proofs.YtmmnljepbnifnaaDoor
open Go.RowKit U8
open Go.Lib hiding intOf

def okQ (p : List UInt8 × List UInt8) : Prop := p.1.length ≤ 2147483647 ∧ p.2.length ≤ 2147483647
def maxQ (p : List UInt8 × List UInt8) : Prop := p.1.length ≤ 9223372036854775807 ∧ p.2.length ≤ 9223372036854775807
set_option maxHeartbeats 1600000 in
theorem fits3_any (p : List UInt8 × List UInt8) (w : World) (hm : maxQ p) :
    Calls Tryd.prog 21 #[.agg #[.string (txt p.1), .string (txt p.2)]] w (FitPost (okQ p) w) := by
  obtain ⟨pn, pv⟩ := p
  obtain ⟨h1, h2⟩ := hm
  simp only at h1 h2 ⊢
  have hzk := txt_size pn
  have hzr := txt_size pv
  have hra := (Below.refl w.heap.size w).alloc (Nat.le_refl _) (.cells #[.string (txt pn), .string (txt pv)] 36)
  have HRA := Lib.hid hra
  clear hra
  by_cases e1 : (2147483647 : Int) < pn.length
  · go_enter Tryd.func21, Tryd.ntmps21
    go_wp2
    go_ret
    exact ⟨false, rfl, HRA.out, fun h => by cases h⟩
  by_cases e2 : (2147483647 : Int) < pv.length
  · go_enter Tryd.func21, Tryd.ntmps21
    go_wp2
    go_ret
    exact ⟨false, rfl, HRA.out, fun h => by cases h⟩
  have HF : Hid (okQ (pn, pv)) := ⟨by show pn.length ≤ _; omega, by show pv.length ≤ _; omega⟩
  go_enter Tryd.func21, Tryd.ntmps21
  go_wp2
  go_ret
  exact ⟨true, rfl, HRA.out, fun _ => HF.out⟩
set_option maxHeartbeats 3200000 in
set_option maxRecDepth 100000 in
theorem fits2_any (ps : KVs) (v : Value) (w : World) (hQ : Qx w v ps) (hl : ps.length ≤ 9223372036854775807) (hs : ∀ p ∈ ps, maxQ p) :
    Calls Tryd.prog 10 #[v] w (FitPost (ps.length ≤ 2147483647 ∧ ∀ p ∈ ps, okQ p) w) := by
  obtain ⟨ao, cap, rfl, hcp, hx⟩ := hQ
  have HX := Lib.hid hx
  have HSZ := Lib.hid hs
  clear hx hs
  by_cases hbig : (2147483647 : Int) < ps.length
  · go_enter Tryd.func10, Tryd.ntmps10
    go_wp2
    go_ret
    exact ⟨false, rfl, Below.refl _ _, fun h => by cases h⟩
  go_enter Tryd.func10, Tryd.ntmps10
  go_wp2
  go_loopg [4, 10] (ps.length + 1) (fun gk v4 v10 wr => ∃ k : Nat, v10 = .int .i64 k ∧ k ≤ ps.length ∧ ps.length - k < gk ∧ Hid (∀ p ∈ ps.take k, okQ p) ∧ Hid (Below w.heap.size w wr))
  case atStart => exact ⟨0, rfl, by omega, by omega, fun p hp => by simp at hp, Below.refl _ _⟩
  case round =>
    obtain ⟨k, rfl, hk, hg, HC, HB⟩ := hrel
    have hbs := HB.out.size
    by_cases hlt : k < ps.length
    · obtain ⟨g1, rfl⟩ : ∃ m, gk = m + 1 := ⟨gk - 1, by omega⟩
      have hp := List.getElem?_eq_getElem hlt
      have htk := List.take_succ_eq_append_getElem hlt
      generalize ps[k] = p at hp htk
      obtain ⟨g, o, rfl, h0, h1⟩ := HX.out k p hp
      have hM := HSZ.out p (List.mem_of_getElem? hp)
      have hlift : ∀ {q : Addr} {u : Value}, w.cell? q = some u → wr.cell? q = some u := fun {q u} h => (HB.out.cell (World.block_lt_of_cell? w _ h)).trans h
      have d0 := hlift h0
      have d1 := hlift h1
      have hra := HB.out.alloc hbs (.cells #[.string (txt p.1), .string (txt p.2)] 36)
      have HRA := Lib.hid hra
      have cF := Lib.hid (fits3_any p (wr.alloc (.cells #[.string (txt p.1), .string (txt p.2)] 36)) hM)
      have HTK := Lib.hid htk
      clear htk hp h0 h1 hM hra hlift
      go_wp2_with fail
      refine cF.out.mono ?_
      rintro e wx ⟨q, rfl, hbx, hq⟩
      have HBX := Lib.hid (HRA.out.trans (hbx.mono HRA.out.size))
      have HQ := Lib.hid hq
      clear hbx hq
      cases q
      · go_wp2
        go_ret
        exact ⟨false, rfl, HBX.out, fun h => by cases h⟩
      · have HCN : Hid (∀ p ∈ ps.take (k + 1), okQ p) := by
          show ∀ _ _, _
          intro p hp
          rw [HTK.out, List.mem_append, List.mem_singleton] at hp
          rcases hp with hp | rfl
          · exact HC.out p hp
          · exact HQ.out rfl
        clear HQ HTK HC
        go_wp2
        go_roundg g1
        case rel => exact ⟨k + 1, by go_num, by omega, by omega, HCN.out, HBX.out⟩
        case measure => omega
    · have HF : Hid (∀ p ∈ ps, okQ p) := by
        show ∀ _ _, _
        have := HC.out
        rw [List.take_of_length_le (by omega)] at this
        exact this
      clear HC
      go_wp2
      go_ret
      exact ⟨true, rfl, HB.out, fun _ => ⟨by omega, HF.out⟩⟩
section
open Go.ChangeShapes Go.WideShapes Go.Deep
theorem open_pairs {H : Type} {enc : TypeId × Value → H} {W : World} {a0 : Option Addr} {len cap fuel : Nat} {x : DataW H × List MemPlace}
    (hf : DataW.trod enc Tryd.prog W 0 (fun _ => true) true fuel 31 [.slice a0 len cap] = some x) :
    ∃ ps : KVs, Qx W (.slice a0 len cap) ps ∧ ps.length ≤ 9223372036854775807 ∧ ∀ p ∈ ps, maxQ p := by
  have U := Tryd.underlying31
  have U2 := Tryd.underlying36
  rcases open_slice_fields U U2 (by kernel_rfl) (by kernel_rfl) hf with ⟨hcs, hx⟩ | ⟨a, len', cap', m, hcs, hl, hm, hz, hcell⟩
  · simp at hcs
    obtain ⟨rfl, rfl, rfl⟩ := hcs
    exact ⟨[], ⟨none, 0, rfl, Nat.le_refl _, fun j y h => by simp at h⟩, by simp, fun y h => by cases h⟩
  · simp at hcs
    obtain ⟨rfl, rfl, rfl⟩ := hcs
    simp only [if_true] at hz
    unfold maxLen at hm
    subst hz
    obtain ⟨b, off, spot⟩ := a
    have hone : ∀ i, i < len → ∃ p : List UInt8 × List UInt8, (W.cell? ((⟨b, off, spot⟩ : Addr).add (i * 2 + 0)) = some (.string (txt p.1)) ∧ W.cell? ((⟨b, off, spot⟩ : Addr).add (i * 2 + 1)) = some (.string (txt p.2))) ∧ maxQ p := by
      intro i hi
      obtain ⟨n, hn⟩ := hcell i (by omega)
      obtain ⟨v0, y0, c0, t0⟩ := hn 0 _ rfl
      obtain ⟨v1, y1, c1, t1⟩ := hn 1 _ rfl
      obtain ⟨k, rfl, zk⟩ := open_text1 t0
      obtain ⟨r, rfl, zr⟩ := open_text1 t1
      exact ⟨(k, r), ⟨c0, c1⟩, zk, zr⟩
    obtain ⟨ps, hlen, hps⟩ := pick_list len hone
    refine ⟨ps, ⟨_, m, by rw [hlen], by omega, fun j p hj => ?_⟩, by omega, fun p hp => ?_⟩
    · obtain ⟨⟨c0, c1⟩, _⟩ := hps j p hj
      have hj0 : 0 < ps.length := by
        have := (List.getElem?_eq_some_iff.1 hj).1
        omega
      have hspot : spot = none := by
        obtain ⟨⟨z0, _⟩, _⟩ := hps 0 _ (List.getElem?_eq_getElem hj0)
        simpa [Addr.add] using World.cell?_spot z0
      subst hspot
      have ad : ∀ n, (⟨b, off, none⟩ : Addr).add n = ⟨b, off + n, none⟩ := fun n => by simp [Addr.add]
      rw [ad] at c0 c1
      exact ⟨b, off, rfl, c0, by rw [Nat.add_assoc]; exact c1⟩
    · obtain ⟨j, hj⟩ := List.getElem?_of_mem hp
      exact (hps j p hj).2
end
end Go.Proofs.YtmmnljepbnifnaaDoor
