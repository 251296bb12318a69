/- Properties made of a list, and their text. -/
import Derived.Test.YtmmnljepbnifnaaDoorGObj
namespace Go.Proofs.YtmmnljepbnifnaaDoor
open Go.RowKit U8
open Go.Lib hiding intOf

/-- A property as an argument: its key, its raw value, its value, its comments. -/
structure PropA where
  k : List UInt8
  r : List UInt8
  x : List UInt8
  c : List (List UInt8)
/-- A slice of properties. -/
def Px (w : World) (v : Value) (ps : List PropA) : Prop := ∃ ao cap, v = .slice ao ps.length cap ∧ ps.length ≤ cap ∧ ∀ j p, ps[j]? = some p → ∃ g o cv, ao = some ⟨g, o, none⟩ ∧
  w.cell? ⟨g, o + j * 4, none⟩ = some (.string (txt p.k)) ∧ w.cell? ⟨g, o + j * 4 + 1, none⟩ = some (.string (txt p.r)) ∧ w.cell? ⟨g, o + j * 4 + 2, none⟩ = some (.string (txt p.x)) ∧ w.cell? ⟨g, o + j * 4 + 3, none⟩ = some cv ∧ Tx w cv p.c
theorem Px.below {w w' : World} {v : Value} {ps : List PropA} (h : Px w v ps) (hb : Below w.heap.size w w') : Px w' v ps := by
  obtain ⟨ao, cap, e, hcp, hx⟩ := h
  refine ⟨ao, cap, e, hcp, fun j p hj => ?_⟩
  obtain ⟨g, o, cv, e2, h0, h1, h2, h3, h4⟩ := hx j p hj
  have c : ∀ {q : Addr} {u : Value}, w.cell? q = some u → w'.cell? q = some u := fun {q u} h => (hb.cell (World.block_lt_of_cell? w _ h)).trans h
  exact ⟨g, o, cv, e2, c h0, c h1, c h2, c h3, h4.below hb⟩
def lineOf (p : List UInt8 × List UInt8) : List UInt8 := p.1 ++ ([32, 61, 32] ++ (p.2 ++ [10]))
def textOf (kv : KV) : List UInt8 := kv.flatMap lineOf
theorem textOf_snoc (kv : KV) (p : List UInt8 × List UInt8) : textOf (kv ++ [p]) = textOf kv ++ lineOf p := by simp [textOf]
theorem textOf_take (kv : KV) (k : Nat) (p : List UInt8 × List UInt8) (h : kv[k]? = some p) : textOf (kv.take (k + 1)) = textOf (kv.take k) ++ lineOf p := by
  rw [List.take_add_one, h]; exact textOf_snoc _ _
theorem textOf_le (kv : KV) (k : Nat) : (textOf (kv.take k)).length ≤ (textOf kv).length := by
  have : textOf kv = textOf (kv.take k) ++ textOf (kv.drop k) := by
    unfold textOf
    rw [← List.flatMap_append, List.take_append_drop]
  rw [this, List.length_append]; omega
set_option maxHeartbeats 3200000 in
set_option maxRecDepth 100000 in
theorem string_any (B b m : Nat) (s1 s2 c s3 : Value) (kv : KV) (w : World) (h : Pr B b m s1 s2 c s3 kv w) (hl : (textOf kv).length ≤ 1000000) (hk : kv.length ≤ 1000000) :
    Calls Tryd.prog 15 #[.pointer (some ⟨b, 0, none⟩)] w fun e w' => e = .returned (.string (txt (textOf kv))) ∧ w' = w := by
  have HP := Lib.hid h
  obtain ⟨_, _, _, vk, ho, hown⟩ := h
  have d5 : w.cell? ⟨b, 5, none⟩ = some vk := by simp [World.cell?, ho]
  obtain ⟨ao, cap, hvk⟩ := owns_slice hown
  subst hvk
  have hT : Tx w (.slice ao kv.length cap) (kv.map Prod.fst) := by
    have := tx_own (w := w) (base := B) (v := .slice ao kv.length cap) (l := kv.map Prod.fst) (by rw [List.length_map]; exact hown)
    exact this
  obtain ⟨_, _, e1, _, hx⟩ := hT
  rw [List.length_map] at e1
  cases e1
  have HX := Lib.hid hx
  have HL := Lib.hid hl
  clear hx hown ho hl
  go_enter Tryd.func15, Tryd.ntmps15
  go_wp2
  go_loopg [3, 5, 6, 7, 13] (kv.length + 1) (fun gk v3 v5 v6 v7 v13 wr => ∃ (k : Nat) (o : List UInt8), v13 = .int .i64 k ∧ v3 = .string (txt o) ∧ k ≤ kv.length ∧ kv.length - k < gk ∧ Hid (o = textOf (kv.take k)) ∧ wr = w)
  case atStart => exact ⟨0, [], rfl, rfl, by omega, by omega, rfl, rfl⟩
  case round =>
    obtain ⟨k, o, rfl, rfl, hk2, hg, HO, hwr⟩ := hrel
    obtain rfl := hwr.symm
    by_cases hlt : k < kv.length
    · obtain ⟨gk, rfl⟩ : ∃ m, gk = m + 1 := ⟨gk - 1, by omega⟩
      have hp := List.getElem?_eq_getElem hlt
      generalize kv[k] = p at hp
      obtain ⟨pk, pv⟩ := p
      obtain ⟨g, o1, rfl, cx⟩ := HX.out k pk (by rw [List.getElem?_map, hp]; rfl)
      have cG := Lib.hid (get_hit B b m s1 s2 c s3 kv pk pv _ HP.out (List.mem_of_getElem? hp))
      have hst := textOf_take kv k (pk, pv) hp
      have hle := textOf_le kv (k + 1)
      have hll := HL.out
      rw [hst, List.length_append, ← HO.out] at hle
      have hpl : pk.length + 3 + pv.length + 1 = (lineOf (pk, pv)).length := by unfold lineOf; simp; omega
      have HN : Hid (o ++ lineOf (pk, pv) = textOf (kv.take (k + 1))) := by show _ = _; rw [hst, HO.out]
      have h1 := txt_size o
      have h2 := txt_size pk
      have h3 := txt_size pv
      have HAP : Hid (txt o ++ txt pk ++ ⟨#[32, 61, 32]⟩ ++ txt pv ++ ⟨#[10]⟩ = txt (o ++ lineOf (pk, pv))) := by
        show _ = _
        rw [show (⟨#[32, 61, 32]⟩ : ByteArray) = txt [32, 61, 32] from rfl, show (⟨#[10]⟩ : ByteArray) = txt [10] from rfl, txt_append, txt_append, txt_append, txt_append]
        unfold lineOf
        simp
      have hcat : o.length + pk.length + pv.length + 4 ≤ 1000000 := by omega
      have z1 : (txt o ++ txt pk).size = o.length + pk.length := by rw [txt_append, txt_size, List.length_append]
      have z2 : (txt o ++ txt pk ++ ⟨#[32, 61, 32]⟩).size = o.length + pk.length + 3 := by rw [show (⟨#[32, 61, 32]⟩ : ByteArray) = txt [32, 61, 32] from rfl, txt_append, txt_append, txt_size]; simp; omega
      have z3 : (txt o ++ txt pk ++ ⟨#[32, 61, 32]⟩ ++ txt pv).size = o.length + pk.length + 3 + pv.length := by rw [show (⟨#[32, 61, 32]⟩ : ByteArray) = txt [32, 61, 32] from rfl, txt_append, txt_append, txt_append, txt_size]; simp; omega
      clear hp hst hle hll hpl HO
      go_wp2_with fail
      refine cG.out.mono ?_
      rintro e wx ⟨rfl, hwx⟩
      obtain rfl := hwx.symm
      go_wp2
      go_roundg gk
      case rel => exact ⟨k + 1, _, by go_num, congrArg Value.string HAP.out, by omega, by omega, HN.out, rfl⟩
      case measure => omega
    · have HF : Hid (o = textOf kv) := by show _ = _; rw [HO.out, List.take_of_length_le (by omega)]
      clear HO
      go_wp2
      go_ret
      exact ⟨by rw [← HF.out]; rfl, rfl⟩

set_option maxHeartbeats 3200000 in
set_option maxRecDepth 100000 in
theorem given_bare (ps : List PropA) (v : Value) (w : World) (hP : Px w v ps) (hc : ∀ p ∈ ps, p.c = [] ∧ p.k ≠ []) (hn : (ps.map PropA.k).Nodup) (hl : ps.length ≤ 1000000) :
    Calls Tryd.prog 14 #[v] w fun e w' => ∃ b m c, e = .returned (.pointer (some ⟨b, 0, none⟩)) ∧ Pr w.heap.size b m (.string ⟨#[36, 123]⟩) (.string ⟨#[125]⟩) c (.string ⟨#[]⟩) (ps.map fun p => (p.k, p.r)) w' ∧ Below w.heap.size w w' := by
  obtain ⟨ao, cap, rfl, hcp, hx⟩ := hP
  have HX := Lib.hid hx
  have HC := Lib.hid hc
  have HN := Lib.hid hn
  clear hx hc hn
  go_enter Tryd.func14, Tryd.ntmps14
  go_wp2_with fail
  refine (newProps w).mono ?_
  rintro e w1 ⟨rfl, hm, hk, ho, hb, hsz⟩
  have c2 : w1.cell? ⟨w.heap.size + 3, 2, none⟩ = some (.bool false) := by simp [World.cell?, ho]
  have f2 : w1.frozen? ⟨w.heap.size + 3, 2, none⟩ = false := by simp [World.frozen?, ho]
  have HP0 : Hid (Pr w.heap.size (w.heap.size + 3) w.heap.size (.string ⟨#[36, 123]⟩) (.string ⟨#[125]⟩) (.map (some (w.heap.size + 1))) (.string ⟨#[]⟩) [] (w1.setCell ⟨w.heap.size + 3, 2, none⟩ (.bool true))) := by
    refine ⟨by omega, by omega, (ism_new hm).of (Below.heap_setCell _ _ _ _ (by simp)), .slice (some ⟨w.heap.size + 2, 0, none⟩) 0 0, ?_, ?_⟩
    · simp [World.setCell, Array.getElem?_modify, ho]
    · refine ⟨rfl, .inr ⟨w.heap.size + 2, 0, #[], rfl, by omega, ?_, Nat.le_refl _, by unfold maxLen; omega, rfl, rfl⟩⟩
      rw [Below.heap_setCell _ _ _ _ (by simp)]; exact hk
  have HB0 : Hid (Below w.heap.size w (w1.setCell ⟨w.heap.size + 3, 2, none⟩ (.bool true))) := hb.setCell (p := ⟨w.heap.size + 3, 2, none⟩) (by simp) (.bool true)
  clear hm hk ho hb hsz
  obtain ⟨b, hb⟩ : ∃ b, w.heap.size + 3 = b := ⟨_, rfl⟩
  rw [hb] at c2 f2 HP0 HB0 ⊢
  clear hb
  go_wp2
  generalize w1.setCell ⟨b, 2, none⟩ (.bool true) = w2 at *
  go_loopg [5, 12] (ps.length + 1) (fun gk v5 v12 wr => ∃ k : Nat, v12 = .int .i64 k ∧ k ≤ ps.length ∧ ps.length - k < gk ∧ Hid (Pr w.heap.size b w.heap.size (.string ⟨#[36, 123]⟩) (.string ⟨#[125]⟩) (.map (some (w.heap.size + 1))) (.string ⟨#[]⟩) ((ps.take k).map fun p => (p.k, p.r)) wr) ∧ Hid (Below w.heap.size w wr))
  case atStart => exact ⟨0, rfl, by omega, by omega, HP0.out, HB0.out⟩
  case round =>
    obtain ⟨k, rfl, hk, hg, HP, HB⟩ := hrel
    have hbs := HB.out.size
    by_cases hlt : k < ps.length
    · obtain ⟨gk, rfl⟩ : ∃ m, gk = m + 1 := ⟨gk - 1, by omega⟩
      have hp := List.getElem?_eq_getElem hlt
      have htk := List.take_succ_eq_append_getElem hlt
      generalize ps[k] = p at hp htk
      obtain ⟨g, o, cv, rfl, h0, h1, h2, h3, h4⟩ := HX.out k p hp
      have c : ∀ {q : Addr} {u : Value}, w.cell? q = some u → wr.cell? q = some u := fun {q u} h => (HB.out.cell (World.block_lt_of_cell? w _ h)).trans h
      have d0 := c h0
      have d1 := c h1
      have d2 := c h2
      have d3 := c h3
      obtain ⟨cao, ccap, rfl, _, _⟩ := h4
      obtain ⟨hpc, hpk⟩ := HC.out p (List.mem_of_getElem? hp)
      rw [hpc] at d3
      obtain ⟨pk, pr, px, pc⟩ := p
      simp only at hpc hpk d0 d1 d2
      subst hpc
      have HTK : Hid ((ps.take (k + 1)).map (fun p => (p.k, p.r)) = (ps.take k).map (fun p => (p.k, p.r)) ++ [(pk, pr)]) := by show _ = _; rw [htk, List.map_append]; rfl
      have hnew : ∀ q ∈ (ps.take k).map (fun p => (p.k, p.r)), q.1 ≠ pk := by
        intro q hq e
        obtain ⟨y, hy, rfl⟩ := List.mem_map.1 hq
        have hnd := HN.out
        rw [← List.take_append_drop k ps, List.map_append, List.nodup_append] at hnd
        refine hnd.2.2 y.k (List.mem_map.2 ⟨y, hy, rfl⟩) pk (List.mem_map.2 ⟨_, List.mem_of_getElem? (l := ps.drop k) (i := 0) (by rw [List.getElem?_drop]; exact hp), rfl⟩) e
      have hlk : ((ps.take k).map fun p => (p.k, p.r)).length ≤ 1000000 := by rw [List.length_map, List.length_take]; omega
      have CS := Lib.hid fun W (h : Pr w.heap.size b w.heap.size (.string ⟨#[36, 123]⟩) (.string ⟨#[125]⟩) (.map (some (w.heap.size + 1))) (.string ⟨#[]⟩) ((ps.take k).map fun p => (p.k, p.r)) W) (hB : w.heap.size ≤ W.heap.size) => set_new w.heap.size b w.heap.size _ _ _ _ _ pk pr W h hnew hpk (by omega) hB
      clear h0 h1 h2 h3 c hp htk hnew hpk hlk
      have HBA := Lib.hid (HB.out.alloc hbs (.cells #[.string (txt pk), .string (txt pr), .string (txt px), .slice cao ([] : List (List UInt8)).length ccap] 27))
      have HPA := Lib.hid (HP.out.below ((Below.refl wr.heap.size wr).alloc (Nat.le_refl _) (.cells #[.string (txt pk), .string (txt pr), .string (txt px), .slice cao ([] : List (List UInt8)).length ccap] 27)))
      go_wp2_with fail
      refine (CS.out _ HPA.out (by simp; omega)).mono ?_
      rintro e w3 ⟨rfl, hp3, hb3, hk3⟩
      have h3 : w3.heap[wr.heap.size]? = some (.cells #[.string (txt pk), .string (txt pr), .string (txt px), .slice cao ([] : List (List UInt8)).length ccap] 27 (0, 0)) := by
        have hn := heap_alloc_new wr (.cells #[.string (txt pk), .string (txt pr), .string (txt px), .slice cao ([] : List (List UInt8)).length ccap] 27)
        have hlb : b < wr.heap.size := by obtain ⟨_, _, _, vk, h4, _⟩ := HP.out; exact (Array.getElem?_eq_some_iff.1 h4).1
        have hlm := HP.out.2.2.1.lt
        rw [← hn]
        refine hk3 wr.heap.size (by simp) (by omega) (by omega) (fun x fz => ?_)
        rw [hn]
        intro e
        cases e
      have d33 : w3.cell? ⟨wr.heap.size, 3, none⟩ = some (.slice cao 0 ccap) := by simp [World.cell?, h3]
      have HP3 := Lib.hid (show Pr w.heap.size b w.heap.size (.string ⟨#[36, 123]⟩) (.string ⟨#[125]⟩) (.map (some (w.heap.size + 1))) (.string ⟨#[]⟩) ((ps.take (k + 1)).map fun p => (p.k, p.r)) w3 by rw [HTK.out]; exact hp3)
      have HB3 := Lib.hid (HBA.out.trans hb3)
      clear hp3 hb3 hk3 h3
      go_wp2
      go_roundg gk
      case rel => exact ⟨k + 1, by go_num, by omega, by omega, HP3.out, HB3.out⟩
      case measure => omega
    · have HF := HP.out
      rw [List.take_of_length_le (by omega)] at HF
      have HF2 := Lib.hid HF
      clear HF HP
      go_wp2
      go_ret
      exact ⟨b, w.heap.size, _, rfl, HF2.out, HB.out⟩

end Go.Proofs.YtmmnljepbnifnaaDoor
