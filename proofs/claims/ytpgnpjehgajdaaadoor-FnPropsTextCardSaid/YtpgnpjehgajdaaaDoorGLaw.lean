/- impl.PropsText; the law FnPropsText. -/
import Derived.Test.YtpgnpjehgajdaaaDoorGFits
import Derived.Test.YtpgnpjehgajdaaaDoorGText
namespace Go.Proofs.YtpgnpjehgajdaaaDoor
open Go.RowKit U8
open Go.Lib hiding intOf

set_option maxHeartbeats 3200000 in
set_option maxRecDepth 100000 in
theorem text_any (ps : List PropA) (v : Value) (w : World) (hP : Px w v ps) (hc : ∀ p ∈ ps, p.c = [] ∧ p.k ≠ []) (hn : (ps.map PropA.k).Nodup) (hl : ps.length ≤ 1000000) (hz : (textOf (ps.map fun p => (p.k, p.r))).length ≤ 1000000) (T : List UInt8) (hT : textOf (ps.map fun p => (p.k, p.r)) = T) :
    Calls Tryd.prog 7 #[v] w fun e w' => e = .returned (.string (txt T)) ∧ Below w.heap.size w w' := by
  have hll : (ps.map fun p => (p.k, p.r)).length ≤ 1000000 := by rw [List.length_map]; exact hl
  have cG := Lib.hid (given_bare ps v w hP hc hn hl)
  have HZ := Lib.hid hz
  have HL := Lib.hid hll
  have HT := Lib.hid hT
  clear hP hc hn hz hll hT hl
  generalize (ps.map fun p => (p.k, p.r)) = kv at *
  go_enter Tryd.func7, Tryd.ntmps7
  go_wp2_with fail
  refine cG.out.mono ?_
  rintro e w1 ⟨b, m, c, rfl, hpr, hb⟩
  have HB := Lib.hid hb
  have cS := Lib.hid (string_any _ b m _ _ c _ kv w1 hpr HZ.out HL.out)
  rw [HT.out] at cS
  clear hpr hb
  go_wp2_with fail
  refine cS.out.mono ?_
  rintro e wx ⟨rfl, hwx⟩
  obtain rfl := hwx.symm
  go_wp2
  go_ret
  exact ⟨rfl, HB.out⟩
theorem text_le (ps : List PropA) : (textOf (ps.map fun p => (p.k, p.r))).length ≤ 4 * szP ps ∧ ps.length ≤ szP ps := by
  induction ps with
  | nil => simp [textOf, szP]
  | cons p ps ih =>
    have e1 : (textOf ((p :: ps).map fun p => (p.k, p.r))).length = (lineOf (p.k, p.r)).length + (textOf (ps.map fun p => (p.k, p.r))).length := by simp [textOf]
    have e2 : szP (p :: ps) = p.k.length + p.r.length + 1 + szP ps := by simp [szP]
    have e3 : (lineOf (p.k, p.r)).length = p.k.length + p.r.length + 4 := by unfold lineOf; simp; omega
    rw [e1, e2, e3, List.length_cons]
    omega

theorem px_one (W : World) (B : Nat) (a b : List UInt8) (hn : W.heap[B]? = some (.cells #[.string (txt a), .string (txt b), .string ⟨#[]⟩, .slice none 0 0] 27)) : Px W (.slice (some ⟨B, 0, none⟩) 1 1) [⟨a, b, [], []⟩] := by
  refine ⟨_, 1, rfl, by simp, fun j p hj => ?_⟩
  match j, hj with
  | 0, hj =>
    simp at hj
    subst hj
    refine ⟨B, 0, .slice none 0 0, rfl, ?_, ?_, ?_, ?_, ⟨none, 0, rfl, by simp, fun j x h => by simp at h⟩⟩
    · simp [World.cell?, hn]
    · simp [World.cell?, hn]
    · simp [World.cell?, hn]; rfl
    · simp [World.cell?, hn]

set_option maxHeartbeats 12800000 in
set_option maxRecDepth 100000 in
theorem law_propsText (ps : List PropA) (v : Value) (w : World) (hP : Px w v ps) (hl : ps.length ≤ 9223372036854775807) (hs : ∀ p ∈ ps, maxP p) (hT : Tabs w) :
    Calls Tryd.prog 3 #[v] w fun e w' => e = .returned (.bool true) ∧ Below w.heap.size w w' := by
  have HP := Lib.hid hP
  have HT := Lib.hid hT
  have cF := Lib.hid (fits4_any ps v w hP hl hs)
  obtain ⟨ao, cap, rfl, hcp, hx⟩ := hP
  clear hx hs hT hl
  go_enter Tryd.func3, Tryd.ntmps3
  go_wp2_with fail
  refine cF.out.mono ?_
  rintro e w1 ⟨q, rfl, hb, hq⟩
  have HB1 := Lib.hid hb
  have HQ := Lib.hid hq
  clear hb hq
  cases q
  · go_wp2
    go_ret
    exact ⟨rfl, HB1.out⟩
  have hps := HQ.out rfl
  clear HQ
  have hra := (Below.refl w1.heap.size w1).alloc (Nat.le_refl _) (.cells #[.string ⟨#[97]⟩, .string ⟨#[98]⟩, .string ⟨#[]⟩, .slice none 0 0] 27)
  have HRA := Lib.hid hra
  have hone := px_one (w1.alloc (.cells #[.string ⟨#[97]⟩, .string ⟨#[98]⟩, .string ⟨#[]⟩, .slice none 0 0] 27)) w1.heap.size [97] [98] (heap_alloc_new _ _)
  have cO := Lib.hid (text_any [⟨[97], [98], [], []⟩] _ _ hone (by simp) (by simp) (by decide) (by decide) [97, 32, 61, 32, 98, 10] (by decide))
  have HPS := Lib.hid hps
  clear hone hra hps
  go_wp2_with fail
  refine cO.out.mono ?_
  rintro e w2 ⟨rfl, hb2⟩
  have he : ((txt [97, 32, 61, 32, 98, 10]).toList == ([97, 32, 61, 32, 98, 10] : List UInt8)) = true := by rw [txt_toList]; rfl
  have HB2 := Lib.hid (HB1.out.trans (((HRA.out.trans (hb2.mono HRA.out.size))).mono HB1.out.size))
  clear hb2 cO HRA
  have cL := Lib.hid (listed_bare ps (.slice ao ps.length cap) w2 (HP.out.below HB2.out) HPS.out.1 (fun p hp => by
    obtain ⟨a, b, c, d⟩ := HPS.out.2 p hp
    unfold fitsB at d
    rw [Bool.and_eq_true] at d
    exact ⟨a, b, of_decide_eq_true d.1⟩) (HT.out.below HB2.out))
  go_wp2_with fail
  refine cL.out.mono ?_
  rintro e w3 ⟨q, rfl, hb3, hq⟩
  have HB3 := Lib.hid (HB2.out.trans (hb3.mono HB2.out.size))
  have HQ := Lib.hid hq
  clear hb3 hq cL
  cases q
  · go_wp2
    go_ret
    exact ⟨rfl, HB3.out⟩
  obtain ⟨hc, hn, hsz⟩ := HQ.out rfl
  obtain ⟨ht1, ht2⟩ := text_le ps
  have HC := Lib.hid hc
  have HN := Lib.hid hn
  have hlen : ps.length ≤ 1500 := by omega
  have hT1 : (textOf (ps.map fun p => (p.k, p.r))).length ≤ 6000 := by omega
  have HT1 := Lib.hid hT1
  clear HQ hc hn ht1 ht2 hsz hT1
  have hx := (HP.out.below HB3.out)
  obtain ⟨ao', cap', e1, _, hx⟩ := hx
  cases e1
  have HX := Lib.hid hx
  clear hx
  go_wp2
  go_loopg [3, 5, 18] (ps.length + 1) (fun gk v3 v5 v18 wr => ∃ (k : Nat) (o : List UInt8), v18 = .int .i64 k ∧ v3 = .string (txt o) ∧ k ≤ ps.length ∧ ps.length - k < gk ∧ Hid (o = textOf ((ps.map fun p => (p.k, p.r)).take k)) ∧ Hid (Below w3.heap.size w3 wr))
  case atStart => exact ⟨0, [], rfl, rfl, by omega, by omega, rfl, Below.refl _ _⟩
  case round =>
    obtain ⟨k, o, rfl, rfl, hk, hg, HO, HB⟩ := hrel
    have hbs := HB.out.size
    by_cases hlt : k < ps.length
    · obtain ⟨gk, rfl⟩ : ∃ m, gk = m + 1 := ⟨gk - 1, by omega⟩
      have hp := List.getElem?_eq_getElem hlt
      generalize ps[k] = p at hp
      obtain ⟨g, o1, cv, rfl, h0, h1, h2, h3, h4⟩ := HX.out k p hp
      have c : ∀ {q : Addr} {u : Value}, w3.cell? q = some u → wr.cell? q = some u := fun {q u} h => (HB.out.cell (World.block_lt_of_cell? w3 _ h)).trans h
      have d0 := c h0
      have d1 := c h1
      have d2 := c h2
      have d3 := c h3
      obtain ⟨cao, ccap, rfl, _, _⟩ := h4
      obtain ⟨pk, pr, px, pc⟩ := p
      simp only at d0 d1 d2 d3
      have hst := textOf_take (ps.map fun p => (p.k, p.r)) k (pk, pr) (by rw [List.getElem?_map, hp]; rfl)
      have hle := textOf_le (ps.map fun p => (p.k, p.r)) (k + 1)
      have hll := HT1.out
      rw [hst, List.length_append, ← HO.out] at hle
      have hpl : pk.length + 3 + pr.length + 1 = (lineOf (pk, pr)).length := by unfold lineOf; simp; omega
      have HN2 : Hid (o ++ lineOf (pk, pr) = textOf ((ps.map fun p => (p.k, p.r)).take (k + 1))) := by show _ = _; rw [hst, HO.out]
      have z0 := txt_size o
      have zk := txt_size pk
      have zr := txt_size pr
      have HAP : Hid (txt o ++ (txt pk ++ ⟨#[32, 61, 32]⟩ ++ txt pr ++ ⟨#[10]⟩) = txt (o ++ lineOf (pk, pr))) := by
        show _ = _
        rw [show (⟨#[32, 61, 32]⟩ : ByteArray) = txt [32, 61, 32] from rfl, show (⟨#[10]⟩ : ByteArray) = txt [10] from rfl, txt_append, txt_append, txt_append, txt_append]
        unfold lineOf
        simp
      have hcat : o.length + pk.length + pr.length + 4 ≤ 6000 := by omega
      have z1 : (txt pk ++ ⟨#[32, 61, 32]⟩).size = pk.length + 3 := by rw [show (⟨#[32, 61, 32]⟩ : ByteArray) = txt [32, 61, 32] from rfl, txt_append, txt_size, List.length_append]; rfl
      have z2 : (txt pk ++ ⟨#[32, 61, 32]⟩ ++ txt pr).size = pk.length + 3 + pr.length := by rw [show (⟨#[32, 61, 32]⟩ : ByteArray) = txt [32, 61, 32] from rfl, txt_append, txt_append, txt_size]; simp only [List.length_append, List.length_cons, List.length_nil]
      have z3 : (txt pk ++ ⟨#[32, 61, 32]⟩ ++ txt pr ++ ⟨#[10]⟩).size = pk.length + 3 + pr.length + 1 := by rw [show (⟨#[32, 61, 32]⟩ : ByteArray) = txt [32, 61, 32] from rfl, show (⟨#[10]⟩ : ByteArray) = txt [10] from rfl, txt_append, txt_append, txt_append, txt_size]; simp only [List.length_append, List.length_cons, List.length_nil]
      have HBN := Lib.hid (HB.out.alloc hbs (.cells #[.string (txt pk), .string (txt pr), .string (txt px), .slice cao pc.length ccap] 27))
      clear hp hst hle hll hpl HO h0 h1 h2 h3
      go_wp2
      go_roundg gk
      case rel => exact ⟨k + 1, o ++ lineOf (pk, pr), by go_num, congrArg Value.string HAP.out, by omega, by omega, HN2.out, HBN.out⟩
      case measure => omega
    · have HF : Hid (textOf (ps.map fun p => (p.k, p.r)) = o) := by show _ = _; rw [HO.out, List.take_of_length_le (by simp; omega)]
      clear HO
      have HBW := Lib.hid (HB3.out.trans (HB.out.mono HB3.out.size))
      have cT := Lib.hid (text_any ps (.slice ao ps.length cap) wr (HP.out.below HBW.out) HC.out HN.out (by omega) (by have := HT1.out; omega) o HF.out)
      clear HF HX HT1
      go_wp2_with fail
      refine cT.out.mono ?_
      rintro e w4 ⟨rfl, hb4⟩
      have HB4 := Lib.hid (HBW.out.trans (hb4.mono HBW.out.size))
      clear hb4
      go_wp2
      go_ret
      exact ⟨by simp, HB4.out⟩
end Go.Proofs.YtpgnpjehgajdaaaDoor
