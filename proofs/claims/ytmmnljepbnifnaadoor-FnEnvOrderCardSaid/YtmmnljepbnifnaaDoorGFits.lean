/- laws.zzFits5, zzFits4; properties as an argument. -/
import Derived.Test.YtmmnljepbnifnaaDoorGList2
import Derived.Deep.Slices
import Derived.Deep.Fields
import Derived.ChangeSame
namespace Go.Proofs.YtmmnljepbnifnaaDoor
open Go.RowKit U8
open Go.Lib hiding intOf

def okP (p : PropA) : Prop := p.k.length ≤ 2147483647 ∧ p.r.length ≤ 2147483647 ∧ p.x.length ≤ 2147483647 ∧ fitsB p.c = true
def maxP (p : PropA) : Prop := p.k.length ≤ 9223372036854775807 ∧ p.r.length ≤ 9223372036854775807 ∧ p.x.length ≤ 9223372036854775807 ∧ p.c.length ≤ 9223372036854775807 ∧ ∀ y ∈ p.c, y.length ≤ 9223372036854775807
def FitPost (X : Prop) (w : World) (e : Ending) (w' : World) : Prop := ∃ q : Bool, e = .returned (.bool q) ∧ Below w.heap.size w w' ∧ (q = true → X)
set_option maxHeartbeats 3200000 in
set_option maxRecDepth 100000 in
theorem fits5_any (p : PropA) (cv : Value) (w : World) (hT : Tx w cv p.c) (hm : maxP p) :
    Calls Tryd.prog 13 #[.agg #[.string (txt p.k), .string (txt p.r), .string (txt p.x), cv]] w (FitPost (okP p) w) := by
  obtain ⟨pk, pr, px, pc⟩ := p
  obtain ⟨hmk, hmr, hmx, hmc, hmy⟩ := hm
  simp only at hT hmk hmr hmx hmc hmy ⊢
  obtain ⟨cao, ccap, rfl, hcp, hcx⟩ := hT
  have hzk := txt_size pk
  have hzr := txt_size pr
  have hzx := txt_size px
  have hrb := (Below.refl w.heap.size w).alloc (Nat.le_refl _) (.cells #[.string (txt pk), .string (txt pr), .string (txt px), .slice cao pc.length ccap] 27)
  have HWA := Lib.hid hrb
  have HTC := Lib.hid (Tx.below (w := w) (v := .slice cao pc.length ccap) (l := pc) ⟨cao, ccap, rfl, hcp, hcx⟩ hrb)
  have HMY := Lib.hid hmy
  clear hrb hcx hmy
  have hMC := Lib.hid hmc
  by_cases e1 : (2147483647 : Int) < pk.length
  · clear hmc
    go_enter Tryd.func13, Tryd.ntmps13
    go_wp2
    go_ret
    exact ⟨false, rfl, HWA.out, fun h => by cases h⟩
  by_cases e2 : (2147483647 : Int) < pr.length
  · clear hmc
    go_enter Tryd.func13, Tryd.ntmps13
    go_wp2
    go_ret
    exact ⟨false, rfl, HWA.out, fun h => by cases h⟩
  by_cases e3 : (2147483647 : Int) < px.length
  · clear hmc
    go_enter Tryd.func13, Tryd.ntmps13
    go_wp2
    go_ret
    exact ⟨false, rfl, HWA.out, fun h => by cases h⟩
  have H1 : Hid (pk.length ≤ 2147483647 ∧ pr.length ≤ 2147483647 ∧ px.length ≤ 2147483647) := ⟨by omega, by omega, by omega⟩
  clear hmc
  have cF := Lib.hid (fits_any pc (.slice cao pc.length ccap) (w.alloc (.cells #[.string (txt pk), .string (txt pr), .string (txt px), .slice cao pc.length ccap] 27)) HTC.out hMC.out HMY.out)
  obtain ⟨F, hF⟩ : ∃ F, fitsB pc = F := ⟨_, rfl⟩
  rw [hF] at cF
  have HF := Lib.hid hF
  clear hF
  go_enter Tryd.func13, Tryd.ntmps13
  go_wp2_with fail
  refine cF.out.mono ?_
  rintro e wx ⟨rfl, hwx⟩
  obtain rfl := hwx.symm
  cases F
  · go_wp2
    go_ret
    exact ⟨false, rfl, HWA.out, fun h => by cases h⟩
  · go_wp2
    go_ret
    exact ⟨true, rfl, HWA.out, fun _ => ⟨H1.out.1, H1.out.2.1, H1.out.2.2, HF.out⟩⟩

set_option maxHeartbeats 6400000 in
set_option maxRecDepth 100000 in
theorem fits4_any (ps : List PropA) (v : Value) (w : World) (hP : Px w v ps) (hl : ps.length ≤ 9223372036854775807) (hs : ∀ p ∈ ps, maxP p) :
    Calls Tryd.prog 6 #[v] w (FitPost (ps.length ≤ 2147483647 ∧ ∀ p ∈ ps, okP p) w) := by
  obtain ⟨ao, cap, rfl, hcp, hx⟩ := hP
  have HX := Lib.hid hx
  have HSZ := Lib.hid hs
  clear hx hs
  by_cases hbig : (2147483647 : Int) < ps.length
  · go_enter Tryd.func6, Tryd.ntmps6
    go_wp2
    go_ret
    exact ⟨false, rfl, Below.refl _ _, fun h => by cases h⟩
  go_enter Tryd.func6, Tryd.ntmps6
  go_wp2
  go_loopg [4, 10] (ps.length + 1) (fun gk v4 v10 wr => ∃ k : Nat, v10 = .int .i64 k ∧ k ≤ ps.length ∧ ps.length - k < gk ∧ Hid (∀ p ∈ ps.take k, okP p) ∧ Hid (Below w.heap.size w wr))
  case atStart => exact ⟨0, rfl, by omega, by omega, fun p hp => by simp at hp, Below.refl _ _⟩
  case round =>
    obtain ⟨k, rfl, hk, hg, HC, HB⟩ := hrel
    have hbs := HB.out.size
    by_cases hlt : k < ps.length
    · obtain ⟨g1, rfl⟩ : ∃ m, gk = m + 1 := ⟨gk - 1, by omega⟩
      have hp := List.getElem?_eq_getElem hlt
      have htk := List.take_succ_eq_append_getElem hlt
      generalize ps[k] = p at hp htk
      obtain ⟨g, o, cv, rfl, h0, h1, h2, h3, h4⟩ := HX.out k p hp
      have hM := HSZ.out p (List.mem_of_getElem? hp)
      have hlift : ∀ {q : Addr} {u : Value}, w.cell? q = some u → wr.cell? q = some u := fun {q u} h => (HB.out.cell (World.block_lt_of_cell? w _ h)).trans h
      have d0 := hlift h0
      have d1 := hlift h1
      have d2 := hlift h2
      have d3 := hlift h3
      have h4' := h4
      obtain ⟨cao, ccap, rfl, _, _⟩ := h4'
      have hra := HB.out.alloc hbs (.cells #[.string (txt p.k), .string (txt p.r), .string (txt p.x), .slice cao p.c.length ccap] 27)
      have HRA := Lib.hid hra
      have cF := Lib.hid (fits5_any p _ _ (h4.below hra) hM)
      have HTK := Lib.hid htk
      obtain ⟨pk, pr, px, pc⟩ := p
      simp only at d0 d1 d2 d3 cF HRA
      clear htk hp h0 h1 h2 h3 h4 hM hra hlift
      go_wp2_with fail
      refine cF.out.mono ?_
      rintro e wx ⟨q, rfl, hbx, hq⟩
      have HBX := Lib.hid (HRA.out.trans (hbx.mono HRA.out.size))
      have HQ := Lib.hid hq
      clear hbx hq
      cases q
      · go_wp2
        go_ret
        exact ⟨false, rfl, HBX.out, fun h => by cases h⟩
      · have HCN : Hid (∀ p ∈ ps.take (k + 1), okP p) := by
          show ∀ _ _, _
          intro p hp
          rw [HTK.out, List.mem_append, List.mem_singleton] at hp
          rcases hp with hp | rfl
          · exact HC.out p hp
          · exact HQ.out rfl
        clear HQ HTK HC
        go_wp2
        go_roundg g1
        case rel => exact ⟨k + 1, by go_num, by omega, by omega, HCN.out, HBX.out⟩
        case measure => omega
    · have HF : Hid (∀ p ∈ ps, okP p) := by
        show ∀ _ _, _
        have := HC.out
        rw [List.take_of_length_le (by omega)] at this
        exact this
      clear HC
      go_wp2
      go_ret
      exact ⟨true, rfl, HB.out, fun _ => ⟨by omega, HF.out⟩⟩

section
open Go.ChangeShapes Go.WideShapes Go.Deep
variable {H : Type} {enc : TypeId × Value → H} {P : Program} {w : World} {base : Nat} {spare : Nat → Bool} {held : Bool}
theorem open_slice_fields {t e : TypeId} {fs : Array Field} {fuel : Nat} {cs : List Value} {x : DataW H × List MemPlace} (ht : P.underlying t = some (.slice e)) (he : P.underlying e = some (.struct fs))
    (hone : oneCellFields P fs = true) (hC : P.cellsOf e = fs.size) (h : DataW.trod enc P w base spare held fuel t cs = some x) :
    (cs = [.slice none 0 0] ∧ x = (.nil, [])) ∨
    ∃ (a : Addr) (len cap m : Nat), cs = [.slice (some a) len cap] ∧ len ≤ cap ∧ cap ≤ maxLen ∧ m = (if spare a.block then cap else len) ∧
      ∀ i, i < m → ∃ n : Nat,
        ∀ (j : Nat) (f : Field), fs[j]? = some f → ∃ (v : Value) (y : DataW H × List MemPlace), w.cell? (a.add (i * fs.size + j)) = some v ∧ DataW.trod enc P w base spare held n f.type [v] = some y := by
  rcases open_slice ht h with h0 | ⟨a, len, cap, m, n, D, Pl, hcs, hb, hl, hm, hmm, hx, hi⟩
  · exact .inl h0
  · refine .inr ⟨a, len, cap, m, hcs, hl, hm, hmm, fun i him => ?_⟩
    obtain ⟨cs', hc, ht'⟩ := hi i him
    rw [hC] at hc
    obtain ⟨ys, n', hn', hy, hlen, hyl, hf⟩ := DataW.trod_struct he ht'
    obtain ⟨_, hcl, hat⟩ := World.cells?_some hc
    refine ⟨n', fun j f hj => ?_⟩
    obtain ⟨ho, hk⟩ := hone_of hone j f hj
    have hjl : j < fs.size := (Array.getElem?_eq_some_iff.1 hj).1
    have hcell := hat j hjl
    have hv : cs'[j]? = some (cs'[j]'(by omega)) := List.getElem?_eq_getElem (by omega)
    have h1 := hf j f hj
    rw [ho, hk] at h1
    have hone' : (cs'.drop j).take 1 = [cs'[j]'(by omega)] := by
      rw [List.drop_eq_getElem_cons (by omega)]
      rfl
    rw [hone'] at h1
    have hys : ys[j]? = some (ys[j]'(by omega)) := List.getElem?_eq_getElem (by omega)
    refine ⟨_, _, ?_, h1.trans hys⟩
    rw [← Go.Deep.add_add, hcell, hv]
end
open Go.ChangeShapes Go.WideShapes Go.Deep
theorem open_text1 {H : Type} {enc : TypeId × Value → H} {W : World} {v : Value} {fuel : Nat} {x : DataW H × List MemPlace} (hf : DataW.trod enc Tryd.prog W 0 (fun _ => true) true fuel 9 [v] = some x) :
    ∃ s : List UInt8, v = .string (txt s) ∧ s.length ≤ 9223372036854775807 := by
  obtain ⟨s, hs, _, hl⟩ := DataW.trod_string Tryd.underlying9 hf
  simp at hs
  subst hs
  unfold maxLen at hl
  rw [size_list] at hl
  exact ⟨s.data.toList, rfl, by omega⟩
theorem pick_list {α : Type} {R : Nat → α → Prop} : ∀ len : Nat, (∀ i, i < len → ∃ p, R i p) → ∃ ps : List α, ps.length = len ∧ ∀ (j : Nat) (p : α), ps[j]? = some p → R j p := by
  intro len
  induction len with
  | zero => intro _; exact ⟨[], rfl, fun j p h => by simp at h⟩
  | succ n ih =>
    intro h
    obtain ⟨ps, hl, hx⟩ := ih fun i hi => h i (by omega)
    obtain ⟨p, hp⟩ := h n (by omega)
    refine ⟨ps ++ [p], by simp [hl], fun j q hj => ?_⟩
    rcases Nat.lt_or_ge j ps.length with hlt | hge
    · rw [List.getElem?_append_left hlt] at hj
      exact hx j q hj
    · rw [List.getElem?_append_right hge] at hj
      have : j = n := by
        have := (List.getElem?_eq_some_iff.1 hj).1
        simp at this
        omega
      subst this
      rw [hl, Nat.sub_self] at hj
      simp at hj
      exact hj ▸ hp
theorem open_props {H : Type} {enc : TypeId × Value → H} {W : World} {a0 : Option Addr} {len cap fuel : Nat} {x : DataW H × List MemPlace}
    (hf : DataW.trod enc Tryd.prog W 0 (fun _ => true) true fuel 22 [.slice a0 len cap] = some x) :
    ∃ ps : List PropA, Px W (.slice a0 len cap) ps ∧ ps.length ≤ 9223372036854775807 ∧ ∀ p ∈ ps, maxP p := by
  have U := Tryd.underlying22
  have U2 := Tryd.underlying27
  rcases open_slice_fields U U2 (by kernel_rfl) (by kernel_rfl) hf with ⟨hcs, hx⟩ | ⟨a, len', cap', m, hcs, hl, hm, hz, hcell⟩
  · simp at hcs
    obtain ⟨rfl, rfl, rfl⟩ := hcs
    exact ⟨[], ⟨none, 0, rfl, Nat.le_refl _, fun j y h => by simp at h⟩, by simp, fun y h => by cases h⟩
  · simp at hcs
    obtain ⟨rfl, rfl, rfl⟩ := hcs
    simp only [if_true] at hz
    unfold maxLen at hm
    subst hz
    obtain ⟨b, off, spot⟩ := a
    have hone : ∀ i, i < len → ∃ p : PropA, (∃ cv, W.cell? ((⟨b, off, spot⟩ : Addr).add (i * 4 + 0)) = some (.string (txt p.k)) ∧ W.cell? ((⟨b, off, spot⟩ : Addr).add (i * 4 + 1)) = some (.string (txt p.r)) ∧ W.cell? ((⟨b, off, spot⟩ : Addr).add (i * 4 + 2)) = some (.string (txt p.x)) ∧ W.cell? ((⟨b, off, spot⟩ : Addr).add (i * 4 + 3)) = some cv ∧ Tx W cv p.c) ∧ maxP p := by
      intro i hi
      obtain ⟨n, hn⟩ := hcell i (by omega)
      obtain ⟨v0, y0, c0, t0⟩ := hn 0 _ rfl
      obtain ⟨v1, y1, c1, t1⟩ := hn 1 _ rfl
      obtain ⟨v2, y2, c2, t2⟩ := hn 2 _ rfl
      obtain ⟨v3, y3, c3, t3⟩ := hn 3 _ rfl
      obtain ⟨k, rfl, zk⟩ := open_text1 t0
      obtain ⟨r, rfl, zr⟩ := open_text1 t1
      obtain ⟨x, rfl, zx⟩ := open_text1 t2
      have h3 : ∃ a l c, v3 = .slice a l c := by
        rcases open_strings Tryd.underlying25 Tryd.underlying9 cells_str t3 with ⟨hcs, _⟩ | ⟨a, len', cap', ss, hcs, _⟩
        · simp at hcs; exact ⟨_, _, _, hcs⟩
        · simp at hcs; exact ⟨_, _, _, hcs⟩
      obtain ⟨ca, cl, cc, rfl⟩ := h3
      obtain ⟨l, hl, hll, hly⟩ := open_texts t3
      exact ⟨⟨k, r, x, l⟩, ⟨_, c0, c1, c2, c3, hl⟩, zk, zr, zx, hll, hly⟩
    obtain ⟨ps, hlen, hps⟩ := pick_list len hone
    refine ⟨ps, ⟨_, m, by rw [hlen], by omega, fun j p hj => ?_⟩, by omega, fun p hp => ?_⟩
    · obtain ⟨⟨cv, c0, c1, c2, c3, ht⟩, _⟩ := hps j p hj
      have hj0 : 0 < ps.length := by
        have := (List.getElem?_eq_some_iff.1 hj).1
        omega
      have hspot : spot = none := by
        obtain ⟨⟨_, z0, _⟩, _⟩ := hps 0 _ (List.getElem?_eq_getElem hj0)
        simpa [Addr.add] using World.cell?_spot z0
      subst hspot
      have ad : ∀ n, (⟨b, off, none⟩ : Addr).add n = ⟨b, off + n, none⟩ := fun n => by simp [Addr.add]
      rw [ad] at c0 c1 c2 c3
      exact ⟨b, off, cv, rfl, c0, by rw [Nat.add_assoc]; exact c1, by rw [Nat.add_assoc]; exact c2, by rw [Nat.add_assoc]; exact c3, ht⟩
    · obtain ⟨j, hj⟩ := List.getElem?_of_mem hp
      exact (hps j p hj).2
end Go.Proofs.YtmmnljepbnifnaaDoor
