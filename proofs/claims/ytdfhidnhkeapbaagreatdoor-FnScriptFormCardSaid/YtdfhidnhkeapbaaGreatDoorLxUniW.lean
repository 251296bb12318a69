/- The lexer's scanUnicodeLiteral: its walk. Condition: the number of characters gathered. -/
import Derived.Test.YtdfhidnhkeapbaaGreatDoorLxUni
import Derived.Laws.MakeOwn
import Derived.Laws.OwnMore
namespace Go.Proofs.YtdfhidnhkeapbaaGreatDoor
open Go.RowKit U8
open Go.Lib hiding intOf

theorem zero4 : (madeCells (Value.int .i32 0).cells (4 * 1)).toList = cells [] ++ List.replicate (4 - 0) (Value.int .i32 0) := by
  rw [show (Value.int .i32 0).cells = #[Value.int .i32 0] from rfl, toList_madeCells_one]; rfl
theorem row_heap {W : World} {B D n cap : Nat} {xs : List Value} (h : W.ownsRow B 21 1 (.slice (some ⟨D, 0, none⟩) n cap) n xs) : ∃ cur, W.heap[D]? = some (.cells cur 21 (0, 0)) ∧ B ≤ D := by
  rcases h.2 with ⟨h0, _⟩ | ⟨g, c, cur, h0, hg, hh, _⟩
  · cases h0
  · cases h0; exact ⟨cur, hh, hg⟩
theorem set_next (ds : List Nat) (r : Nat) (h : ds.length < 4) : (cells ds ++ List.replicate (4 - ds.length) (Value.int .i32 0)).set ds.length (.int .i32 r) = cells (ds ++ [r]) ++ List.replicate (4 - (ds ++ [r]).length) (Value.int .i32 0) := by
  rw [List.set_append_right _ _ (by rw [cells_length]; exact Nat.le_refl _), cells_length, Nat.sub_self, cells_append, List.length_append, List.length_singleton, show 4 - ds.length = (4 - (ds.length + 1)) + 1 by omega, List.replicate_succ, List.set_cons_zero, List.append_assoc]
  rfl
theorem hex_snoc {ds : List Nat} {r : Nat} (h : ∀ d ∈ ds, hexR d = true) (hr : hexR r = true) : ∀ d ∈ ds ++ [r], hexR d = true := fun d hd => by
  rcases List.mem_append.1 hd with h1 | h1
  · exact h d h1
  · rw [List.mem_singleton.1 h1]; exact hr
set_option maxHeartbeats 3200000 in
set_option maxRecDepth 100000 in
theorem scanU_any (w0 : World) (b : Nat) (s rest : List UInt8) (wd : Nat) (acc : List Nat) (its : List LI) (w : World) (h : Lx w0 b s rest wd acc its w) (hT : Tabs w0) (hl : acc.length ≤ 1000000) :
    Calls Tryz.prog 149 #[.pointer (some ⟨b, 0, none⟩)] w (ScanP w0 b s acc its (hex4 (rns rest))) := by
  obtain ⟨i0, hi, hz0, hz1, hz2⟩ := info_parts Tryz.info21
  obtain ⟨w2, hmk, hown0, hgr⟩ := run_make_full (P := Tryz.prog) w w.heap.size 114 21 i0 (.int .i32 0) 1 Tryz.underlying114 hi hz0 hz1 .i64 .i64 4 (by rw [hz2]; decide) (by unfold maxLen; omega) (Nat.le_refl _)
  rw [zero4] at hown0
  have hB2 : Below w.heap.size w w2 := (Below.refl _ w).grown hgr (Nat.le_refl _) (fun k hk => by cases hk)
  have hlb := h.lt
  have hs0 := h.below0.size
  obtain ⟨_, _, _, _, vr, _, _, _, _, _, _, _, _, c6, _, _, hr, _⟩ := h.vals
  have hvr : vr.ownBlock ≠ some w.heap.size := fun e => by have := (hr.lt _ e).2; omega
  have HL2 := Lib.hid (h.below hB2)
  have H6 := Lib.hid ((hB2.cell (p := ⟨b, 6, none⟩) hlb).trans c6)
  have HO2 := Lib.hid hown0
  have HT := Lib.hid hT
  have hs2 : w.heap.size < w2.heap.size := by obtain ⟨cur, hh, _⟩ := row_heap hown0; exact (Array.getElem?_eq_some_iff.1 hh).1
  obtain ⟨RR, hRR⟩ : ∃ RR, rns rest = RR := ⟨_, rfl⟩
  rw [hRR]
  have HRR : Hid (RR = [] ++ rns rest) := by show _ = _; rw [hRR]; rfl
  clear h hT hgr hown0 c6 hr hB2 hRR
  obtain ⟨D, hD⟩ : ∃ D, w.heap.size = D := ⟨_, rfl⟩
  rw [hD] at hmk HO2 hvr hs2 hlb hs0
  have hmk2 : (Instr.makeSlice 114 (.int .i64 4) (.int .i64 4)).run Tryz.prog w = .ok (.slice (some ⟨D, 0, none⟩) 4 4) w2 := hmk
  clear hmk hD
  go_enter Tryz.func149, Tryz.ntmps149
  go_wp2
  clear hmk2
  go_loopg [2, 4] 5 (fun gk v2 v4 wr => ∃ (ds : List Nat) (r1 : List UInt8) (wd1 : Nat), v2 = .nilIface ∧ v4 = .int .i64 ds.length ∧ ds.length ≤ 4 ∧ 4 - ds.length < gk ∧ D < wr.heap.size ∧ Hid (Lx w0 b s r1 wd1 acc its wr) ∧ Hid (wr.ownsRow D 21 1 (.slice (some ⟨D, 0, none⟩) 4 4) 4 (cells ds ++ List.replicate (4 - ds.length) (.int .i32 0))) ∧ Hid (wr.cell? ⟨b, 6, none⟩ = some vr) ∧ Hid (RR = ds ++ rns r1) ∧ Hid (∀ d ∈ ds, hexR d = true))
  case atStart => exact ⟨[], rest, wd, rfl, rfl, by simp, by simp, hs2, HL2.out, HO2.out, H6.out, HRR.out, fun d hd => by cases hd⟩
  case round =>
    clear HL2 HO2 H6 HRR
    obtain ⟨ds, r1, wd1, rfl, rfl, hdl, hg, hDw, HL, HO, H6, HRR, HX⟩ := hrel
    by_cases hlt : ds.length < 4
    · obtain ⟨gk, rfl⟩ : ∃ m, gk = m + 1 := ⟨gk - 1, by omega⟩
      obtain ⟨n, hn⟩ : ∃ n, ds.length = n := ⟨_, rfl⟩
      rw [hn] at hdl hg hlt ⊢
      have HN := Lib.hid hn
      have hni : (n : Int) < 4 := by omega
      clear hn
      go_wp2_with fail
      refine (next_fr w0 b s r1 wd1 acc its wr HL.out HT.out).mono ?_
      rintro e w1 ⟨hN, hF⟩
      have HOW : Hid (w1.ownsRow D 21 1 (.slice (some ⟨D, 0, none⟩) 4 4) 4 (cells ds ++ List.replicate (4 - ds.length) (.int .i32 0))) := owns_keep (w := wr) HO.out fun g hg => hF.2.1 g (HO.out.lt g hg).2 (fun e => by have := (HO.out.lt g hg).1; omega)
      have H61 : Hid (w1.cell? ⟨b, 6, none⟩ = some vr) := (hF.2.2 6 (by decide) (by decide)).trans H6.out
      obtain ⟨cur, hh, _⟩ := row_heap HOW.out
      have HH := Lib.hid hh
      have fD : w1.frozen? ⟨D, n, none⟩ = false := by simp [World.frozen?, hh]
      have cD : ∃ u, w1.cell? ⟨D, n, none⟩ = some u := by
        have hx : (cells ds ++ List.replicate (4 - ds.length) (Value.int .i32 0))[n]? = some (.int .i32 0) := by
          rw [List.getElem?_append_right (by rw [cells_length, HN.out]; exact Nat.le_refl _), cells_length, HN.out, Nat.sub_self, List.getElem?_replicate]
          simp; omega
        refine ⟨.int .i32 0, ?_⟩
        have := World.ownsRow.cells (w := w1) HOW.out rfl n _ hx
        have ea : (⟨D, 0, none⟩ : Addr).add n = ⟨D, n, none⟩ := by unfold Addr.add; split <;> simp_all
        rw [ea] at this
        exact this
      obtain ⟨u0, cD⟩ := cD
      have hD1 : D < w1.heap.size := (Array.getElem?_eq_some_iff.1 hh).1
      have hbD : D ≠ b := by omega
      clear hF hh HO H6
      rcases hN with ⟨hr, rfl, h1⟩ | ⟨a, rest2, r, hr, ha, hsc, hrn, rfl, h1⟩
      · subst hr
        have HL1 := Lib.hid (Lx.other h1 D n (.int .i32 (-1)) hs0 hbD H61.out hvr HH.out)
        have cN := World.cell?_setCell_same w1 ⟨D, n, none⟩ (.int .i32 (-1)) cD
        have HF : Hid (hex4 RR = none) := by show _ = _; rw [HRR.out, rns_nil, List.append_nil]; exact hex4_short ds (by rw [HN.out]; exact hlt)
        have hsz1 : (w1.setCell ⟨D, n, none⟩ (.int .i32 (-1))).heap.size = w1.heap.size := by simp
        clear h1 HRR HX HOW H61 HH hsz1
        go_wp2_with fail
        generalize w1.setCell ⟨D, n, none⟩ (.int .i32 (-1)) = W2 at HL1 cN ⊢
        refine (errNew_any _ W2).mono ?_
        rintro e wx ⟨rfl, rfl⟩
        go_wp2
        go_ret
        exact scan_err _ HL1.out HF.out rfl
      · subst hr
        have HL1 := Lib.hid (Lx.other h1 D n (.int .i32 r) hs0 hbD H61.out hvr HH.out)
        have cN := World.cell?_setCell_same w1 ⟨D, n, none⟩ (.int .i32 r) cD
        have HRN := Lib.hid hrn
        have hsti := (World.ownsRow.stored HOW.out n (.int .i32 r)).1
        rw [show n = ds.length from HN.out.symm] at hsti
        rw [set_next ds r (by rw [HN.out]; exact hlt)] at hsti
        rw [HN.out] at hsti
        have HO3 := Lib.hid hsti
        have H63 : Hid ((w1.setCell ⟨D, n, none⟩ (.int .i32 r)).cell? ⟨b, 6, none⟩ = some vr) := (World.cell?_setCell_other _ _ _ _ (by intro e; cases e; exact hbD rfl)).trans H61.out
        have e1 : ((r : Int) == -1) = false := beq_eq_false_iff_ne.2 (by omega)
        have hri := hsc.i32
        obtain ⟨q, hq⟩ : ∃ q, hexR r = q := ⟨_, rfl⟩
        have HQ := Lib.hid hq
        have cC := crune_any [48, 49, 50, 51, 52, 53, 54, 55, 56, 57, 97, 98, 99, 100, 101, 102, 65, 66, 67, 68, 69, 70] r (w1.setCell ⟨D, n, none⟩ (.int .i32 r)) hsc (by decide)
        rw [has_hex, hq] at cC
        have CC : Hid (Calls Tryz.prog 136 #[.string ⟨#[48, 49, 50, 51, 52, 53, 54, 55, 56, 57, 97, 98, 99, 100, 101, 102, 65, 66, 67, 68, 69, 70]⟩, .int .i32 r] (w1.setCell ⟨D, n, none⟩ (.int .i32 r)) fun e w' => e = .returned (.bool q) ∧ Below (w1.setCell ⟨D, n, none⟩ (.int .i32 r)).heap.size (w1.setCell ⟨D, n, none⟩ (.int .i32 r)) w') := cC
        have hsz1 : (w1.setCell ⟨D, n, none⟩ (.int .i32 r)).heap.size = w1.heap.size := by simp
        have hbl : b < (w1.setCell ⟨D, n, none⟩ (.int .i32 r)).heap.size := by rw [hsz1]; omega
        clear h1 hrn HOW H61 HH cC hq hsti ha
        go_wp2_with fail
        generalize w1.setCell ⟨D, n, none⟩ (.int .i32 r) = W2 at HL1 cN HO3 H63 CC hbl hsz1 ⊢
        refine CC.out.mono ?_
        rintro e w5 ⟨rfl, hb5⟩
        have HL5 := Lib.hid (HL1.out.below hb5)
        have HO5 := Lib.hid (owns_below HO3.out hb5)
        have H65 : Hid (w5.cell? ⟨b, 6, none⟩ = some vr) := (hb5.cell hbl).trans H63.out
        have hD5 : D < w5.heap.size := by have := hb5.size; omega
        have HRS : Hid (RR = ds ++ (r :: rns rest2)) := by show _ = _; rw [HRR.out, HRN.out]
        clear hb5 HL1 HO3 H63 CC cN hbl hsz1 HRR HRN
        cases q
        · have HF : Hid (hex4 RR = none) := by show _ = _; rw [HRS.out]; exact hex4_bad ds r _ (by rw [HN.out]; exact hlt) HQ.out
          clear HRS
          go_wp2_with fail
          refine (errNew_any _ w5).mono ?_
          rintro e wx ⟨rfl, rfl⟩
          go_wp2
          go_ret
          exact scan_err _ HL5.out HF.out rfl
        · go_wp2
          go_roundg gk
          case rel => exact ⟨ds ++ [r], rest2, _, rfl, by rw [List.length_append, HN.out]; go_num, by rw [List.length_append, HN.out]; simp; omega, by rw [List.length_append, HN.out]; simp; omega, hD5, HL5.out, HO5.out, H65.out, by show _ = _; rw [HRS.out, List.append_assoc]; rfl, hex_snoc HX.out HQ.out⟩
          case measure => omega
    · have hd4 : ds.length = 4 := by omega
      have hO := HO.out
      rw [hd4, Nat.sub_self, List.replicate_zero, List.append_nil] at hO
      have hrt := run_runes_txt ds hO
      have heq : (txt (encA ds)) = txt (ds.map Nat.toUInt8) := by rw [encA_hex ds HX.out]
      rw [heq] at hrt
      obtain ⟨L, hL⟩ : ∃ L, ds.map Nat.toUInt8 = L := ⟨_, rfl⟩
      have hLl : L.length = 4 := by rw [← hL, List.length_map, hd4]
      have hLx : ∀ x ∈ L, hexR x.toNat = true := fun x hx => by
        rw [← hL] at hx
        obtain ⟨d, hd, rfl⟩ := List.mem_map.1 hx
        have h1 := HX.out d hd
        rw [u8_toNat (by have := (hexR_lt h1).1; omega)]
        exact h1
      rw [hL] at hrt
      have hLn : hexN L < 65536 := by
        have := hexN_le L hLx 4 (by omega)
        rw [List.take_of_length_le (by omega)] at this
        omega
      have HF : Hid (hex4 RR = some (hexN L, rns r1)) := by show _ = _; rw [HRR.out, hex4_yes ds _ hd4 HX.out, hL]
      have CP := Lib.hid (pint16 L wr (by omega) (by omega) hLx)
      have hn4 : (ds.length : Int) = 4 := by omega
      rw [hn4]
      clear hO heq HRR HX hLx hL HO
      go_wp2_with fail
      refine CP.out.mono ?_
      rintro e w5 ⟨rfl, hb5⟩
      have HL5 := Lib.hid (HL.out.below hb5)
      clear hb5 hrt CP
      obtain ⟨c, hc⟩ : ∃ c, hexN L = c := ⟨_, rfl⟩
      have hc9 : c < 65536 := by rw [← hc]; exact hLn
      rw [hc] at HF ⊢
      have hwr : IntKind.i32.wrap (c : Int) = (c : Int) := by simp [IntKind.wrap, IntKind.signed, IntKind.bits]; omega
      have CA := Lib.hid (appendRune_any w0 b _ r1 c wd1 acc its w5 HL5.out hl)
      go_wp2_with fail
      refine CA.out.mono ?_
      rintro e w6 ⟨rfl, h6⟩
      have HL6 := Lib.hid h6
      clear h6 CA HL5
      go_wp2
      go_ret
      exact .inl ⟨c, _, r1, wd1, HF.out, rfl, HL6.out, rfl⟩
end Go.Proofs.YtdfhidnhkeapbaaGreatDoor
