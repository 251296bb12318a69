/- Parse, without variables: its walk. -/
import Derived.Test.YthekblmkcfkboaaDoorWRound
import Derived.WalkMore
import Derived.Deep.DeepCutAuto
namespace Go.Proofs.YthekblmkcfkboaaDoor
open Go.RowKit U8
open Go.Lib hiding intOf

/-- What Parse leaves. -/
def ParsePost (R : Option (List (List UInt8) × Int)) (pp : Nat) (ev : Value) (w : World) (e : Ending) (w' : World) : Prop :=
  (R = none → e = .returned (.tuple #[.slice none 0 0, ev]) ∧ Below w.heap.size w w') ∧
  (∀ args pos, R = some (args, pos) → ∃ ao cap w1, e = .returned (.tuple #[.slice ao args.length cap, .nilIface]) ∧ Below w.heap.size w w1 ∧ w' = w1.setCell ⟨pp, 2, none⟩ (.int .i64 pos) ∧ w'.ownsRow w.heap.size 9 1 (.slice ao args.length cap) args.length (strsV args))
set_option maxHeartbeats 6400000 in
set_option maxRecDepth 100000 in
theorem parse_any (cmt : Bool) (ex : List Nat) (l : List UInt8) (pp : Nat) (gv ev : Value) (w : World) (hl : l.length ≤ 100000) (hxl : ex.length ≤ 100000) (hpp : pp < w.heap.size)
    (c0 : w.cell? ⟨pp, 0, none⟩ = some (.bool false)) (c1 : w.cell? ⟨pp, 1, none⟩ = some (.bool cmt)) (c2 : ∃ v, w.cell? ⟨pp, 2, none⟩ = some v) (c4 : w.cell? ⟨pp, 4, none⟩ = some gv) (f2 : w.frozen? ⟨pp, 2, none⟩ = false) (hE : Ex pp ex w)
    (hev : w.cell? ⟨0, 0, none⟩ = some ev) :
    Calls Tryd.prog 26 #[.pointer (some ⟨pp, 0, none⟩), .string (txt l)] w (ParsePost (runS cmt ex Sx.start (rns l)) pp ev w) := by
  obtain ⟨i0, hi, hz0, hz1, hz2⟩ := info_parts Tryd.infoStr
  obtain ⟨i1, hj, hy0, hy1, hy2⟩ := info_parts Tryd.infoByte
  have hts := txt_size l
  have HE := Lib.hid hE
  obtain ⟨n, hn⟩ : ∃ n, l.length = n := ⟨_, rfl⟩
  have hq8 : ((n : Int)).tdiv 8 = ((n / 8 : Nat) : Int) := by rw [Int.tdiv_eq_ediv_of_nonneg (by omega)]; omega
  have h18 : (1 : Int) + ((n / 8 : Nat) : Int) = ((1 + n / 8 : Nat) : Int) := by omega
  have HX0 : Hid (∀ A0 B0 G0 T0 S0, PB w.heap.size A0 B0 G0 T0 S0 → Cs w l pp A0 B0 G0 T0 S0 cmt ex ev) := fun _ _ _ _ _ k => ⟨hl, hxl, hpp, c0, c1, hE, hev, k⟩
  have hc0 := Lib.hid c0
  have hc1 := Lib.hid c1
  have hc2 := Lib.hid c2
  have hc4 := Lib.hid c4
  have hf2 := Lib.hid f2
  have hcE := Lib.hid hev
  clear c0 c1 c2 c4 f2 hev hE
  rw [hn] at hts hl
  go_enter Tryd.func26, Tryd.ntmps26
  go_wp2
  go_step3
  go_wp2_with (first
    | (at_make; refine wpList_make_own _ rfl _ _ 22 rfl w.heap.size 9 i0 (.string ⟨#[]⟩) 1 Tryd.underlying22 hi hz0 hz1 .i64 .i64 _ (1 + n / 8) rfl rfl (by first | exact h18 | omega) (by rw [hz2]; omega) (by unfold maxLen; omega) (Nat.le_refl _) ?_; intro w0 hown0 hgrow0; have HO0 := Lib.hid hown0; have HG0 := Lib.hid hgrow0; have hs0 := hgrow0.size; clear hown0 hgrow0 hq8 h18)
    | (at_make; refine wpList_make_own _ rfl _ _ 23 rfl w.heap.size 5 i1 (.int .u8 0) 1 Tryd.underlying23 hj hy0 hy1 .i64 .i64 _ n rfl rfl (by first | rfl | omega) (by rw [hy2]; omega) (by unfold maxLen; omega) (by simp; omega) ?_
       intro w2 hown2 hgrow2
       rw [show (World.alloc _ _).heap.size = w0.heap.size + 1 from by simp] at hown2
       have hst := pw_start w w0 w2 (txt l) _ _ HG0.out HO0.out hgrow2 hown2 (by simp [Value.ownBlock])
       have hs2 := hgrow2.size
       simp at hs2
       have hp0 : pp < w0.heap.size := by omega
       have hp2 : pp < w2.heap.size := by omega
       have hp3 : pp < w2.heap.size + 1 := by omega
       have hp4 : pp < w2.heap.size + 1 + 1 := by omega
       have hp5 : pp < w2.heap.size + 1 + 1 + 1 := by omega
       have hkb : w2.heap[pp]? = w.heap[pp]? := by rw [hgrow2.block pp (by simp; omega) (by simp), alloc_old w0 _ _ hp0, HG0.out.block pp hpp (by simp)]
       have k4 : w2.cell? ⟨pp, 4, none⟩ = some gv := (World.cell?_of_block hkb).trans hc4.out
       obtain ⟨hPW, hPB⟩ := hst
       have HPW := Lib.hid hPW
       have HK := Lib.hid hPB
       clear hPW hPB hown2 hgrow2 hkb HG0 HO0))
  go_step3
  go_wp2
  have hbpp : Hid (∀ wr, Below w.heap.size w wr → wr.heap[pp]? = w.heap[pp]?) := fun wr hb => hb.block pp hpp
  clear hp0 hp2 hp3 hp4 hp5 k4 hc4 hs0 hs2
  generalize (((((w2.alloc (.cells #[.slice (some ⟨w0.heap.size + 1, 0, none⟩) 0 n] 23)).alloc (.cells #[.int .i64 0] 58)).alloc (.cells #[.bool false] 4)).alloc (.cells #[.bool false] 4)).iter (txt l) 0) = W1 at *
  generalize (Value.slice (some ⟨w0.heap.size + 1, 0, none⟩) 0 n) = vb0 at *
  generalize w2.heap.size + 1 + 1 + 1 + 1 = I0 at *
  generalize w2.heap.size + 1 + 1 + 1 = S0 at *
  generalize w2.heap.size + 1 + 1 = T0 at *
  generalize w2.heap.size + 1 = G0 at *
  generalize w2.heap.size = B0 at *
  generalize w0.heap.size = A0 at *
  obtain ⟨R, hR⟩ : ∃ R, runS cmt ex Sx.start (rns l) = R := ⟨_, rfl⟩
  have HR0 := Lib.hid hR.symm
  have HRP : Hid (runS cmt ex Sx.start (rns l) = R) := hR
  clear hR
  have HX := Lib.hid (HX0.out _ _ _ _ _ HK.out)
  refine wp_loop_ghost_k (RInv w l pp A0 B0 G0 T0 S0 I0 cmt ex R) (n + 1) ?_ ?_
  · exact ⟨_, Sx.start, [], l, [], vb0, _, rfl, ⟨⟨rfl, rfl, rfl, rfl, rfl, rfl, rfl, rfl, rfl, rfl, rfl, rfl, rfl, rfl, rfl, rfl, rfl, rfl, rfl, (by show Value.int _ _ = Value.int _ _; first | rfl | go_num), rfl⟩, rfl, by decide, by simp [Sx.start], by simp [Sx.start], by simp, by decide, by decide, HR0.out, HPW.out⟩, by omega⟩
  intro gk a1 wr hI J K hJ hK
  obtain ⟨us, s, p, rest, bt, vb, vk, rfl, H, hgl⟩ := hI
  refine round_any rfl HX.out H hgl (fun a' w' h => ?_) (fun a' w' hb => ?_) (fun a' w' he => ?_)
  · obtain ⟨k', h1, h2⟩ := h
    exact hK _ _ (Handed.intro k' h1 (hJ _ _ _ h2))
  · clear H hgl hJ hK
    obtain ⟨us, ⟨args, buf, got, tq, esc, dq, sq, bq, dl, cm, ad, i⟩, p, bt, vb, vk, pos, rfl, fr, hgot, hargs, hR, hp⟩ := hb
    dsimp only at hgot hargs hp
    obtain ⟨hn, s0, s1, s6, s7, s8, s9, s10, s11, s12, s13, s14, s15, s16, s17, s18, s19, s20, s22, s23, s50⟩ := fr
    dsimp only at s8 s9 s10 s11 s12 s13 s19 s23
    rw [lit_all us hn, s0, s1, s6, s7, s8, s9, s10, s11, s12, s13, s14, s15, s16, s17, s18, s19, s20, s22, s23, s50]
    clear hn s0 s1 s6 s7 s8 s9 s10 s11 s12 s13 s14 s15 s16 s17 s18 s19 s20 s22 s23 s50
    have HPo := Lib.hid hp
    have HRF := Lib.hid hR
    have CF := Lib.hid (flush_any w A0 B0 G0 T0 S0 I0 p (txt l) vb _ args buf bt got tq _ HK.out HPo.out (by omega) hgot)
    clear hp hR HPW HR0
    go_wp2_with fail
    refine CF.out.mono ?_
    rintro e wf ⟨rfl, vbf, hPF⟩
    obtain ⟨AF, hAF⟩ : ∃ AF, (if got == 2 || (got != 0 && !buf.isEmpty) then args ++ [buf] else args) = AF := ⟨_, rfl⟩
    rw [hAF] at hPF
    have HAF := Lib.hid hAF
    clear hAF
    have HPF := Lib.hid hPF
    obtain ⟨vaf, haf, harf⟩ := hPF.a
    obtain ⟨aof, capf, rfl⟩ := owns_slice harf
    have HOF := Lib.hid harf
    have hbf := hbpp.out wf hPF.bw
    have k2 : ∃ v, wf.cell? ⟨pp, 2, none⟩ = some v := by obtain ⟨v, hv⟩ := hc2.out; exact ⟨v, (World.cell?_of_block hbf).trans hv⟩
    obtain ⟨v2, k2⟩ := k2
    have g2 : wf.frozen? ⟨pp, 2, none⟩ = false := by
      have := hf2.out
      unfold World.frozen? at this ⊢
      rw [hbf]; exact this
    have kpp : pp < wf.heap.size := by have := hPF.bw.size; omega
    have kA : wf.cell? ⟨A0, 0, none⟩ = some (.slice aof AF.length capf) := by simp [World.cell?, haf]
    have kev : wf.cell? ⟨0, 0, none⟩ = some ev := (hPF.bw.cell (World.block_lt_of_cell? w _ hcE.out)).trans hcE.out
    have nAp : A0 ≠ pp := by have := HK.out.a; omega
    clear hPF haf harf hbf
    have HBF := Lib.hid HPF.out.bw
    rcases (show esc = true ∨ (esc = false ∧ (sq = true ∨ (sq = false ∧ (dq = true ∨ (dq = false ∧ (bq = true ∨ (bq = false ∧ (dl = true ∨ dl = false)))))))) by cases esc <;> cases sq <;> cases dq <;> cases bq <;> cases dl <;> simp) with rfl | ⟨rfl, rfl | ⟨rfl, rfl | ⟨rfl, rfl | ⟨rfl, rfl | rfl⟩⟩⟩⟩
    case' inr.inr.inr.inr.inr =>
      have HS : Hid (R = some (AF, pos)) := by
        show _ = _
        rw [HRF.out, ← HAF.out]; rfl
      go_wp2
      (try rw [Exit.noGoto_ret])
      go_ret2
      refine ⟨fun h => (by rw [HRP.out, HS.out] at h; cases h), fun a' p' h => ?_⟩
      rw [HRP.out, HS.out] at h
      cases h
      exact ⟨aof, capf, wf, rfl, HBF.out, rfl, ownsRow_setCell_below HOF.out hpp _⟩
    all_goals
      have HN : Hid (R = none) := by
        show _ = _
        rw [HRF.out]; unfold finS Sx.quoted; simp
      go_wp2
      go_quiet (fail)
      go_wp2
      (try rw [Exit.noGoto_ret])
      go_ret2
      exact ⟨fun _ => ⟨rfl, ⟨HBF.out.os, HBF.out.tape, HBF.out.output, HBF.out.size, HBF.out.block⟩⟩, fun a' p' h => (by rw [HRP.out, HN.out] at h; cases h)⟩
  · clear H hgl hJ hK
    obtain ⟨us, rfl, hn, s4, s5, hR, hb⟩ := he
    have HN := Lib.hid hR
    have HBo := Lib.hid hb
    rw [lit_all us hn, s4, s5]
    clear hn s4 s5 hR hb HPW HR0
    (try rw [Exit.noGoto_ret])
    go_ret2
    exact ⟨fun _ => ⟨rfl, HBo.out⟩, fun a' p' h => (by rw [HRP.out, HN.out] at h; cases h)⟩

end Go.Proofs.YthekblmkcfkboaaDoor
