/- Properties.WriteComment over a strings.Builder, where no comment is to be written. -/
import Derived.Test.YtmmnljepbnifnaaDoorGIo
import Derived.Test.YtmmnljepbnifnaaDoorGText
namespace Go.Proofs.YtmmnljepbnifnaaDoor
open Go.RowKit U8
open Go.Lib hiding intOf

def wrOf (p : List UInt8 × List UInt8) : List UInt8 := encT [32, 58, 61] p.1 ++ ([32, 61, 32] ++ (encT [] p.2 ++ [10]))
def wrAll (kv : KV) : List UInt8 := kv.flatMap wrOf
theorem wrAll_take (kv : KV) (k : Nat) (p : List UInt8 × List UInt8) (h : kv[k]? = some p) : wrAll (kv.take (k + 1)) = wrAll (kv.take k) ++ wrOf p := by
  rw [List.take_add_one, h]; simp [wrAll]
theorem wrAll_le (kv : KV) (k : Nat) : (wrAll (kv.take k)).length ≤ (wrAll kv).length := by
  have : wrAll kv = wrAll (kv.take k) ++ wrAll (kv.drop k) := by
    unfold wrAll
    rw [← List.flatMap_append, List.take_append_drop]
  rw [this, List.length_append]; omega
set_option maxHeartbeats 3200000 in
set_option maxRecDepth 100000 in
theorem wc_plain (B b m wb : Nat) (s1 s2 c : Value) (kv : KV) (w w0 : World) (h : Pr B b m s1 s2 c (.string ⟨#[]⟩) kv w0) (hl : (wrAll kv).length ≤ 140737488355328) (hk : kv.length ≤ 2147483647) (hsz : ∀ p ∈ kv, p.1.length ≤ 100000 ∧ p.2.length ≤ 100000)
    (hb : Below w0.heap.size w0 w) (hbl : Bld w0.heap.size wb [] w) (hT : Wt w0) :
    Calls Tryd.prog 19 #[.pointer (some ⟨b, 0, none⟩), .iface 49 (.pointer (some ⟨wb, 0, none⟩)), .string ⟨#[]⟩, .int .u64 1] w
      fun e w' => e = .returned (.tuple #[.int .i64 (wrAll kv).length, .nilIface]) ∧ Bld w0.heap.size wb (wrAll kv) w' ∧ Below w0.heap.size w0 w' := by
  have HP := Lib.hid h
  have HBL := Lib.hid hbl
  have HSZ := Lib.hid hsz
  have HL := Lib.hid hl
  have HB0 := Lib.hid hb
  have HT0 := Lib.hid hT
  obtain ⟨_, _, _, vk, ho, hown⟩ := h
  have d50 : w0.cell? ⟨b, 5, none⟩ = some vk := by simp [World.cell?, ho]
  obtain ⟨ao, cap, hvk⟩ := owns_slice hown
  subst hvk
  have hT2 : Tx w0 (.slice ao kv.length cap) (kv.map Prod.fst) := tx_own (w := w0) (base := B) (v := .slice ao kv.length cap) (l := kv.map Prod.fst) (by rw [List.length_map]; exact hown)
  have hX : ∀ j x, (kv.map Prod.fst)[j]? = some x → ∃ g o, ao = some ⟨g, o, none⟩ ∧ w0.cell? ⟨g, o + j, none⟩ = some (.string (txt x)) := by
    obtain ⟨_, _, e1, _, hx⟩ := hT2
    rw [List.length_map] at e1
    cases e1
    exact hx
  have d5 : w.cell? ⟨b, 5, none⟩ = some (.slice ao kv.length cap) := (hb.cell (World.block_lt_of_cell? w0 _ d50)).trans d50
  have HX := Lib.hid hX
  have HD50 := Lib.hid d50
  clear hbl hsz hl ho hown hT hT2 hX hb d50
  go_enter Tryd.func19, Tryd.ntmps19
  go_wp2
  go_loopg [8, 9, 27] (kv.length + 1) (fun gk v8 v9 v27 wr => ∃ (k : Nat) (o : List UInt8), v27 = .int .i64 k ∧ v8 = .int .i64 o.length ∧ v9 = .nilIface ∧ k ≤ kv.length ∧ kv.length - k < gk ∧ Hid (o = wrAll (kv.take k)) ∧ Hid (Bld w0.heap.size wb o wr) ∧ Hid (Below w0.heap.size w0 wr))
  case atStart => exact ⟨0, [], rfl, rfl, rfl, by omega, by omega, rfl, HBL.out, HB0.out⟩
  case round =>
    obtain ⟨k, o, rfl, rfl, rfl, hk2, hg, HO, HBO, HB⟩ := hrel
    have hbs := HB.out.size
    have HT := Lib.hid (HT0.out.below HB.out)
    by_cases hlt : k < kv.length
    · obtain ⟨gk, rfl⟩ : ∃ m, gk = m + 1 := ⟨gk - 1, by omega⟩
      have hp := List.getElem?_eq_getElem hlt
      generalize kv[k] = p at hp
      obtain ⟨pk, pv⟩ := p
      have hPr := HP.out.below HB.out
      obtain ⟨e2, e3, e6⟩ := hPr.cells
      have lift : ∀ {q : Addr} {u : Value}, w0.cell? q = some u → wr.cell? q = some u := fun {q u} h => (HB.out.cell (World.block_lt_of_cell? w0 _ h)).trans h
      obtain ⟨g, o1, rfl, cx0⟩ := HX.out k pk (by rw [List.getElem?_map, hp]; rfl)
      have cx := lift cx0
      clear cx0 lift
      have hlk := look_plain (P := Tryd.prog) 45 9 9 m kv pk pv Tryd.underlying45 Tryd.underlying9 hPr.2.2.1 (List.mem_of_getElem? hp)
      obtain ⟨hz1, hz2⟩ := HSZ.out _ (List.mem_of_getElem? hp)
      simp only at hz1 hz2
      have hst := wrAll_take kv k (pk, pv) hp
      have hle := wrAll_le kv (k + 1)
      have hll := HL.out
      rw [hst, List.length_append, ← HO.out] at hle
      have HST : Hid (o ++ wrOf (pk, pv) = wrAll (kv.take (k + 1))) := by show _ = _; rw [hst, HO.out]
      have cE1 : Hid (Calls Tryd.prog 31 #[.string (txt pk), .string ⟨#[32, 58, 61]⟩, .int .u64 1] wr fun e w' => e = .returned (.string (txt (encT [32, 58, 61] pk))) ∧ Below wr.heap.size wr w') := enc_any [32, 58, 61] pk wr hz1 (by simp) HT.out
      have hM : encT [32, 58, 61] pk ++ ([32, 61, 32] ++ (encT [] pv ++ [10])) = wrOf (pk, pv) := rfl
      obtain ⟨M, hMM⟩ : ∃ M, wrOf (pk, pv) = M := ⟨_, rfl⟩
      rw [hMM] at HST hM hle
      obtain ⟨E, hE⟩ : ∃ E, encT [32, 58, 61] pk = E := ⟨_, rfl⟩
      obtain ⟨F, hF⟩ : ∃ F, encT [] pv = F := ⟨_, rfl⟩
      have hEl := encT_le [32, 58, 61] pk
      have hFl := encT_le [] pv
      rw [hE] at hM cE1 hEl
      rw [hF] at hM hFl
      have HF := Lib.hid hF
      have hml : E.length + F.length + 4 ≤ M.length := by rw [← hM]; simp; omega
      have hml2 : M.length ≤ E.length + F.length + 4 := by rw [← hM]; simp; omega
      have HM : Hid (txt E ++ ⟨#[32, 61, 32]⟩ ++ txt F ++ ⟨#[10]⟩ = txt M) := by
        show _ = _
        rw [show (⟨#[32, 61, 32]⟩ : ByteArray) = txt [32, 61, 32] from rfl, show (⟨#[10]⟩ : ByteArray) = txt [10] from rfl, txt_append, txt_append, txt_append, ← hM]
        simp
      have hMt := HM.out
      have y1 := txt_size E
      have y2 := txt_size F
      have z1 : (txt E ++ ⟨#[32, 61, 32]⟩).size = E.length + 3 := by rw [show (⟨#[32, 61, 32]⟩ : ByteArray) = txt [32, 61, 32] from rfl, txt_append, txt_size, List.length_append]; rfl
      have z2 : (txt E ++ ⟨#[32, 61, 32]⟩ ++ txt F).size = E.length + 3 + F.length := by rw [show (⟨#[32, 61, 32]⟩ : ByteArray) = txt [32, 61, 32] from rfl, txt_append, txt_append, txt_size]; simp only [List.length_append, List.length_cons, List.length_nil]
      have hob : o.length ≤ 140737488355328 := by omega
      have hMb : M.length ≤ 2000000 := by omega
      clear hp hst hM hMM hE hF hPr HO
      go_wp2_with fail
      refine cE1.out.mono ?_
      rintro e w1 ⟨rfl, hb1⟩
      have HB1 := Lib.hid (HB.out.trans (hb1.mono hbs))
      have HBO1 := Lib.hid (HBO.out.below hb1)
      have HT1 := Lib.hid (HT.out.below hb1)
      have hs1 := HB1.out.size
      clear hb1 cE1 cx e2 e3 e6 hlk
      have cE2 : Hid (Calls Tryd.prog 31 #[.string (txt pv), .string ⟨#[]⟩, .int .u64 1] w1 fun e w' => e = .returned (.string (txt F)) ∧ Below w1.heap.size w1 w') := by
        have := enc_any [] pv w1 hz2 (by simp) HT1.out
        rw [HF.out] at this
        exact this
      go_wp2_with fail
      refine cE2.out.mono ?_
      rintro e w2 ⟨rfl, hb2⟩
      have HB2 := Lib.hid (HB1.out.trans (hb2.mono hs1))
      have HBO2 := Lib.hid (HBO1.out.below hb2)
      have HT2 := Lib.hid (HT1.out.below hb2)
      have hs2 := HB2.out.size
      clear hb2 cE2
      have cW := Lib.hid (wstr_any w0.heap.size wb o M w2 HBO2.out (by omega) hs2)
      go_wp2_with fail
      refine cW.out.mono ?_
      rintro e w3 ⟨rfl, h1, h2, h3⟩
      have HBO3 := Lib.hid h1
      have HB3 := Lib.hid (HB2.out.trans h2)
      clear h1 h2 h3
      go_wp2
      go_roundg gk
      case rel => exact ⟨k + 1, o ++ M, by go_num, by simp, rfl, by omega, by omega, HST.out, HBO3.out, HB3.out⟩
      case measure => omega
    · have HF : Hid (o = wrAll kv) := by show _ = _; rw [HO.out, List.take_of_length_le (by omega)]
      clear HO
      go_wp2
      go_ret2
      exact ⟨by rw [← HF.out]; rfl, by rw [← HF.out]; exact HBO.out, HB.out⟩
set_option maxHeartbeats 3200000 in
set_option maxRecDepth 100000 in
theorem wc_hash (B b m wb cb cl : Nat) (s1 s2 : Value) (kv : KV) (w w0 : World) (h : Pr B b m s1 s2 (.map (some cb)) (.string ⟨#[]⟩) kv w0) (hl : (wrAll kv).length ≤ 140737488355328) (hk : kv.length ≤ 2147483647) (hsz : ∀ p ∈ kv, p.1.length ≤ 100000 ∧ p.2.length ≤ 100000)
    (hb : Below w0.heap.size w0 w) (hbl : Bld w0.heap.size wb [] w) (hT : Wt w0) (hcb : w0.heap[cb]? = some (.map #[] cl)) :
    Calls Tryd.prog 19 #[.pointer (some ⟨b, 0, none⟩), .iface 49 (.pointer (some ⟨wb, 0, none⟩)), .string ⟨#[35, 32]⟩, .int .u64 1] w
      fun e w' => e = .returned (.tuple #[.int .i64 (wrAll kv).length, .nilIface]) ∧ Bld w0.heap.size wb (wrAll kv) w' ∧ Below w0.heap.size w0 w' := by
  have HP := Lib.hid h
  have HBL := Lib.hid hbl
  have HSZ := Lib.hid hsz
  have HL := Lib.hid hl
  have HB0 := Lib.hid hb
  have HT0 := Lib.hid hT
  obtain ⟨_, _, _, vk, ho, hown⟩ := h
  have d50 : w0.cell? ⟨b, 5, none⟩ = some vk := by simp [World.cell?, ho]
  obtain ⟨ao, cap, hvk⟩ := owns_slice hown
  subst hvk
  have hT2 : Tx w0 (.slice ao kv.length cap) (kv.map Prod.fst) := tx_own (w := w0) (base := B) (v := .slice ao kv.length cap) (l := kv.map Prod.fst) (by rw [List.length_map]; exact hown)
  have hX : ∀ j x, (kv.map Prod.fst)[j]? = some x → ∃ g o, ao = some ⟨g, o, none⟩ ∧ w0.cell? ⟨g, o + j, none⟩ = some (.string (txt x)) := by
    obtain ⟨_, _, e1, _, hx⟩ := hT2
    rw [List.length_map] at e1
    cases e1
    exact hx
  have d5 : w.cell? ⟨b, 5, none⟩ = some (.slice ao kv.length cap) := (hb.cell (World.block_lt_of_cell? w0 _ d50)).trans d50
  have HX := Lib.hid hX
  have HD50 := Lib.hid d50
  have d40 : w0.cell? ⟨b, 4, none⟩ = some (.map (some cb)) := by simp [World.cell?, ho]
  have HD40 := Lib.hid d40
  have HCB := Lib.hid hcb
  clear hbl hsz hl ho hown hT hT2 hX hb d50 d40 hcb
  go_enter Tryd.func19, Tryd.ntmps19
  go_wp2
  go_loopg [8, 9, 27] (kv.length + 1) (fun gk v8 v9 v27 wr => ∃ (k : Nat) (o : List UInt8), v27 = .int .i64 k ∧ v8 = .int .i64 o.length ∧ v9 = .nilIface ∧ k ≤ kv.length ∧ kv.length - k < gk ∧ Hid (o = wrAll (kv.take k)) ∧ Hid (Bld w0.heap.size wb o wr) ∧ Hid (Below w0.heap.size w0 wr))
  case atStart => exact ⟨0, [], rfl, rfl, rfl, by omega, by omega, rfl, HBL.out, HB0.out⟩
  case round =>
    obtain ⟨k, o, rfl, rfl, rfl, hk2, hg, HO, HBO, HB⟩ := hrel
    have hbs := HB.out.size
    have HT := Lib.hid (HT0.out.below HB.out)
    by_cases hlt : k < kv.length
    · obtain ⟨gk, rfl⟩ : ∃ m, gk = m + 1 := ⟨gk - 1, by omega⟩
      have hp := List.getElem?_eq_getElem hlt
      generalize kv[k] = p at hp
      obtain ⟨pk, pv⟩ := p
      have hPr := HP.out.below HB.out
      obtain ⟨e2, e3, e6⟩ := hPr.cells
      have lift : ∀ {q : Addr} {u : Value}, w0.cell? q = some u → wr.cell? q = some u := fun {q u} h => (HB.out.cell (World.block_lt_of_cell? w0 _ h)).trans h
      obtain ⟨g, o1, rfl, cx0⟩ := HX.out k pk (by rw [List.getElem?_map, hp]; rfl)
      have cx := lift cx0
      have e4 := lift HD40.out
      have hcw : wr.heap[cb]? = some (.map #[] cl) := (HB.out.block cb (Array.getElem?_eq_some_iff.1 HCB.out).1).trans HCB.out
      have hlk2 := run_lookup_empty (P := Tryd.prog) (w := wr) 46 9 25 cb cl (txt pk) (.slice none 0 0) Tryd.underlying46 Tryd.underlying9 (by kernel_rfl) hcw
      clear cx0 lift hcw
      have hlk := look_plain (P := Tryd.prog) 45 9 9 m kv pk pv Tryd.underlying45 Tryd.underlying9 hPr.2.2.1 (List.mem_of_getElem? hp)
      obtain ⟨hz1, hz2⟩ := HSZ.out _ (List.mem_of_getElem? hp)
      simp only at hz1 hz2
      have hst := wrAll_take kv k (pk, pv) hp
      have hle := wrAll_le kv (k + 1)
      have hll := HL.out
      rw [hst, List.length_append, ← HO.out] at hle
      have HST : Hid (o ++ wrOf (pk, pv) = wrAll (kv.take (k + 1))) := by show _ = _; rw [hst, HO.out]
      have cE1 : Hid (Calls Tryd.prog 31 #[.string (txt pk), .string ⟨#[32, 58, 61]⟩, .int .u64 1] wr fun e w' => e = .returned (.string (txt (encT [32, 58, 61] pk))) ∧ Below wr.heap.size wr w') := enc_any [32, 58, 61] pk wr hz1 (by simp) HT.out
      have hM : encT [32, 58, 61] pk ++ ([32, 61, 32] ++ (encT [] pv ++ [10])) = wrOf (pk, pv) := rfl
      obtain ⟨M, hMM⟩ : ∃ M, wrOf (pk, pv) = M := ⟨_, rfl⟩
      rw [hMM] at HST hM hle
      obtain ⟨E, hE⟩ : ∃ E, encT [32, 58, 61] pk = E := ⟨_, rfl⟩
      obtain ⟨F, hF⟩ : ∃ F, encT [] pv = F := ⟨_, rfl⟩
      have hEl := encT_le [32, 58, 61] pk
      have hFl := encT_le [] pv
      rw [hE] at hM cE1 hEl
      rw [hF] at hM hFl
      have HF := Lib.hid hF
      have hml : E.length + F.length + 4 ≤ M.length := by rw [← hM]; simp; omega
      have hml2 : M.length ≤ E.length + F.length + 4 := by rw [← hM]; simp; omega
      have HM : Hid (txt E ++ ⟨#[32, 61, 32]⟩ ++ txt F ++ ⟨#[10]⟩ = txt M) := by
        show _ = _
        rw [show (⟨#[32, 61, 32]⟩ : ByteArray) = txt [32, 61, 32] from rfl, show (⟨#[10]⟩ : ByteArray) = txt [10] from rfl, txt_append, txt_append, txt_append, ← hM]
        simp
      have hMt := HM.out
      have y1 := txt_size E
      have y2 := txt_size F
      have z1 : (txt E ++ ⟨#[32, 61, 32]⟩).size = E.length + 3 := by rw [show (⟨#[32, 61, 32]⟩ : ByteArray) = txt [32, 61, 32] from rfl, txt_append, txt_size, List.length_append]; rfl
      have z2 : (txt E ++ ⟨#[32, 61, 32]⟩ ++ txt F).size = E.length + 3 + F.length := by rw [show (⟨#[32, 61, 32]⟩ : ByteArray) = txt [32, 61, 32] from rfl, txt_append, txt_append, txt_size]; simp only [List.length_append, List.length_cons, List.length_nil]
      have hob : o.length ≤ 140737488355328 := by omega
      have hMb : M.length ≤ 2000000 := by omega
      clear hp hst hM hMM hE hF hPr HO
      go_wp2_with fail
      refine cE1.out.mono ?_
      rintro e w1 ⟨rfl, hb1⟩
      have HB1 := Lib.hid (HB.out.trans (hb1.mono hbs))
      have HBO1 := Lib.hid (HBO.out.below hb1)
      have HT1 := Lib.hid (HT.out.below hb1)
      have hs1 := HB1.out.size
      clear hb1 cE1 cx e2 e3 e4 e6 hlk hlk2
      have cE2 : Hid (Calls Tryd.prog 31 #[.string (txt pv), .string ⟨#[]⟩, .int .u64 1] w1 fun e w' => e = .returned (.string (txt F)) ∧ Below w1.heap.size w1 w') := by
        have := enc_any [] pv w1 hz2 (by simp) HT1.out
        rw [HF.out] at this
        exact this
      go_wp2_with fail
      refine cE2.out.mono ?_
      rintro e w2 ⟨rfl, hb2⟩
      have HB2 := Lib.hid (HB1.out.trans (hb2.mono hs1))
      have HBO2 := Lib.hid (HBO1.out.below hb2)
      have HT2 := Lib.hid (HT1.out.below hb2)
      have hs2 := HB2.out.size
      clear hb2 cE2
      have cW := Lib.hid (wstr_any w0.heap.size wb o M w2 HBO2.out (by omega) hs2)
      go_wp2_with fail
      refine cW.out.mono ?_
      rintro e w3 ⟨rfl, h1, h2, h3⟩
      have HBO3 := Lib.hid h1
      have HB3 := Lib.hid (HB2.out.trans h2)
      clear h1 h2 h3
      go_wp2
      go_roundg gk
      case rel => exact ⟨k + 1, o ++ M, by go_num, by simp, rfl, by omega, by omega, HST.out, HBO3.out, HB3.out⟩
      case measure => omega
    · have HF : Hid (o = wrAll kv) := by show _ = _; rw [HO.out, List.take_of_length_le (by omega)]
      clear HO
      go_wp2
      go_ret2
      exact ⟨by rw [← HF.out]; rfl, by rw [← HF.out]; exact HBO.out, HB.out⟩
end Go.Proofs.YtmmnljepbnifnaaDoor
