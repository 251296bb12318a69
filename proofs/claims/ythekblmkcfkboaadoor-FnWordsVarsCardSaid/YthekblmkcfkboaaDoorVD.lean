/- Parse with variables: its walk. impl's parser and Words, with variables. The plain part of the law FnWordsVars: its line, byte by byte; the tables of unicode. -/
import Derived.Test.YthekblmkcfkboaaDoorVC
import Derived.Test.YthekblmkcfkboaaDoorWWalk
import Derived.Test.YthekblmkcfkboaaDoorWImpl
import Derived.Test.YthekblmkcfkboaaDoorWBarePlain
import Derived.Lib.LaidRTab
import Derived.Lib.LaidU8
namespace Go.Proofs.YthekblmkcfkboaaDoor
open Go.RowKit U8
open Go.Lib hiding intOf

set_option maxHeartbeats 12800000 in
set_option maxRecDepth 100000 in
theorem v_nil {c : Code} (hc : Tryd.f26.body.bind loopOf = some c) {w : World} {l : List UInt8} {pp bx ob ocap A0 B0 G0 T0 S0 I0 : Nat} {nm val : List UInt8} {A : List (List UInt8)} (X : Cv w l pp bx ob ocap A0 B0 G0 T0 S0 nm val)
  {us : List Value} {args : List (List UInt8)} {buf : List UInt8} {got : Nat} {tq sb ad : Bool} {i sk : Int} {p : List UInt8} {vb : Value} {wr : World}
  (H : Rv w l pp bx A0 B0 G0 T0 S0 I0 us args buf got tq sb false ad i sk (0) p [] vb wr)
  (hA : A = fl args buf got) {K : Act → World → Prop} {Q : Exit → Act → World → Prop} (hB : ∀ a' w', BIv w l pp bx A0 B0 G0 T0 S0 I0 A a' w' → Q (.exit 0) a' w') :
  c.wp Tryd.prog (Exit.then K Q) ⟨us.toArray, []⟩ wr := by
  have hcc : Tryd.f26.body.bind loopOf = some _ := rfl
  rw [hc] at hcc
  cases hcc
  obtain ⟨i1, hj, hy0, hy1, hy2⟩ := info_parts Tryd.infoByte
  obtain ⟨hl, hv, hpp, hc0, hE0, k, hoc, ho0, ho1, hnt, hve, hvb, hns, hne⟩ := X
  have HK := Lib.hid k
  obtain ⟨fr, he, hgot, hargs, hbuf, hi0, hi1, hs0, hs1, hp⟩ := H
  obtain ⟨hn, s0, s1, s6, s7, s8, s9, s10, s11, s12, s13, s14, s15, s16, s17, s18, s19, s20, s21, s22, s23, s50⟩ := fr
  rw [lit_all us hn, s0, s1, s6, s7, s8, s9, s10, s11, s12, s13, s14, s15, s16, s17, s18, s19, s20, s21, s22, s23, s50]
  clear hn s0 s1 s6 s7 s8 s9 s10 s11 s12 s13 s14 s15 s16 s17 s18 s19 s20 s21 s22 s23 s50
  have hpl2 : p.length ≤ l.length := by rw [he]; simp
  have hit := hp.it
  have hps : ¬ p.length < (txt l).size := by rw [he, List.append_nil, txt_size]; omega
  have hnx := fun ty => @run_next_end_at Tryd.prog wr I0 _ _ ty hit hps
  have HAF := Lib.hid hA
  have HP2 := Lib.hid hp
  clear hp hps he hE0 hc0 hc hA
  go_wp2
  (try refine hB _ _ ?_)
  exact ⟨_, args, buf, got, _, _, _, _, _, _, _, rfl, ⟨rfl, rfl, rfl, rfl, rfl, rfl, rfl, rfl, rfl, rfl, rfl, rfl, rfl, rfl, rfl, rfl, rfl, rfl, rfl, rfl, (by show Value.int _ _ = Value.int _ _; first | rfl | go_num), rfl⟩, hgot, by omega, HAF.out, HP2.out⟩
theorem v_round {c : Code} (hc : Tryd.f26.body.bind loopOf = some c) {w : World} {l : List UInt8} {pp bx ob ocap A0 B0 G0 T0 S0 I0 : Nat} {nm val : List UInt8} {A : List (List UInt8)} (X : Cv w l pp bx ob ocap A0 B0 G0 T0 S0 nm val)
  {us : List Value} {args : List (List UInt8)} {buf : List UInt8} {got m : Nat} {tq sb sq ad : Bool} {i sk : Int} {p rest : List UInt8} {vb : Value} {wr : World}
  (H : Rv w l pp bx A0 B0 G0 T0 S0 I0 us args buf got tq sb sq ad i sk m p rest vb wr) (hRn : Rn nm val args buf got sq m rest A) {gk : Nat} (hg : rest.length < gk) {K : Act → World → Prop} {Q : Exit → Act → World → Prop}
  (hK : ∀ a' w', Handed (RIv w l pp bx A0 B0 G0 T0 S0 I0 nm val A) gk a' w' → K a' w') (hB : ∀ a' w', BIv w l pp bx A0 B0 G0 T0 S0 I0 A a' w' → Q (.exit 0) a' w') :
  c.wp Tryd.prog (Exit.then K Q) ⟨us.toArray, []⟩ wr := by
  cases hRn with
  | nil => exact v_nil hc X H rfl hB
  | skip h7 h => exact v_skip hc X H h7 h (by simpa using hg) hK
  | sp h => exact v_sp hc X H h (by simpa using hg) hK
  | qo h => exact v_qo hc X H h (by simpa using hg) hK
  | qc h => exact v_qc hc X H h (by simpa using hg) hK
  | put hs h => exact v_put hc X H hs (name_sim hs).2 h (by simpa using hg) hK
  | dol h => exact v_dol hc X H h (by simpa using hg) hK
  | var hat h => exact v_var hc X H hat h (by simpa using hg) hK
set_option maxHeartbeats 6400000 in
set_option maxRecDepth 100000 in
theorem parse_v (nm val : List UInt8) (A : List (List UInt8)) (l : List UInt8) (pp bx ob ocap : Nat) (ev : Value) (w : World) (hl : l.length ≤ 1000) (hv : val.length ≤ 1000) (hpp : pp < w.heap.size)
    (c0 : w.cell? ⟨pp, 0, none⟩ = some (.bool true)) (c2 : ∃ v, w.cell? ⟨pp, 2, none⟩ = some v) (c4 : w.cell? ⟨pp, 4, none⟩ = some (.func (Fn.func 28) #[] #[.pointer (some ⟨bx, 0, none⟩)])) (f2 : w.frozen? ⟨pp, 2, none⟩ = false) (hE : Ex pp [] w)
    (hoc : w.cell? ⟨bx, 2, none⟩ = some (.slice (some ⟨ob, 0, none⟩) 1 ocap)) (ho0 : w.cell? ⟨ob, 0, none⟩ = some (.string (txt nm))) (ho1 : w.cell? ⟨ob, 1, none⟩ = some (.string (txt val)))
    (hN : Nt w) (hve : val ≠ []) (hvb : ∀ b ∈ val, 32 < b.toNat ∧ b.toNat < 128) (hns : ∀ b ∈ nm, simB b = true) (hne : nm ≠ []) (hRn : Rn nm val [] [] 0 false 0 l A) :
    Calls Tryd.prog 26 #[.pointer (some ⟨pp, 0, none⟩), .string (txt l)] w (ParsePost (some (A, -1)) pp ev w) := by
  obtain ⟨i0, hi, hz0, hz1, hz2⟩ := info_parts Tryd.infoStr
  obtain ⟨i1, hj, hy0, hy1, hy2⟩ := info_parts Tryd.infoByte
  have hts := txt_size l
  have HE := Lib.hid hE
  obtain ⟨n, hn⟩ : ∃ n, l.length = n := ⟨_, rfl⟩
  have hq8 : ((n : Int)).tdiv 8 = ((n / 8 : Nat) : Int) := by rw [Int.tdiv_eq_ediv_of_nonneg (by omega)]; omega
  have h18 : (1 : Int) + ((n / 8 : Nat) : Int) = ((1 + n / 8 : Nat) : Int) := by omega
  have HX0 : Hid (∀ A0 B0 G0 T0 S0, PB w.heap.size A0 B0 G0 T0 S0 → Cv w l pp bx ob ocap A0 B0 G0 T0 S0 nm val) := fun _ _ _ _ _ k => ⟨hl, hv, hpp, c0, hE, k, hoc, ho0, ho1, hN, hve, hvb, hns, hne⟩
  have hc0 := Lib.hid c0
  have HRn := Lib.hid hRn
  have hc2 := Lib.hid c2
  have hc4 := Lib.hid c4
  have hf2 := Lib.hid f2
  clear c0 c2 c4 f2 hE hRn hoc ho0 ho1 hN hve hvb hns hne
  rw [hn] at hts hl
  go_enter Tryd.func26, Tryd.ntmps26
  go_wp2
  go_step3
  go_wp2_with (first
    | (at_make; refine wpList_make_own _ rfl _ _ 22 rfl w.heap.size 9 i0 (.string ⟨#[]⟩) 1 Tryd.underlying22 hi hz0 hz1 .i64 .i64 _ (1 + n / 8) rfl rfl (by first | exact h18 | omega) (by rw [hz2]; omega) (by unfold maxLen; omega) (Nat.le_refl _) ?_; intro w0 hown0 hgrow0; have HO0 := Lib.hid hown0; have HG0 := Lib.hid hgrow0; have hs0 := hgrow0.size; clear hown0 hgrow0 hq8 h18)
    | (at_make; refine wpList_make_own _ rfl _ _ 23 rfl w.heap.size 5 i1 (.int .u8 0) 1 Tryd.underlying23 hj hy0 hy1 .i64 .i64 _ n rfl rfl (by first | rfl | omega) (by rw [hy2]; omega) (by unfold maxLen; omega) (by simp; omega) ?_
       intro w2 hown2 hgrow2
       rw [show (World.alloc _ _).heap.size = w0.heap.size + 1 from by simp] at hown2
       have hst := pv_start w w0 w2 (txt l) _ _ HG0.out HO0.out hgrow2 hown2 (by simp [Value.ownBlock])
       have hs2 := hgrow2.size
       simp at hs2
       have hp0 : pp < w0.heap.size := by omega
       have hp2 : pp < w2.heap.size := by omega
       have hp3 : pp < w2.heap.size + 1 := by omega
       have hp4 : pp < w2.heap.size + 1 + 1 := by omega
       have hp5 : pp < w2.heap.size + 1 + 1 + 1 := by omega
       have hkb : w2.heap[pp]? = w.heap[pp]? := by rw [hgrow2.block pp (by simp; omega) (by simp), alloc_old w0 _ _ hp0, HG0.out.block pp hpp (by simp)]
       have k4 : w2.cell? ⟨pp, 4, none⟩ = some _ := (World.cell?_of_block hkb).trans hc4.out
       obtain ⟨hPW, hPB⟩ := hst
       have HPW := Lib.hid hPW
       have HK := Lib.hid hPB
       clear hPW hPB hown2 hgrow2 hkb HG0 HO0))
  go_step3
  go_wp2
  have hbpp : Hid (∀ wr, Below w.heap.size w wr → wr.heap[pp]? = w.heap[pp]?) := fun wr hb => hb.block pp hpp
  clear hp0 hp2 hp3 hp4 hp5 k4 hc4 hs0 hs2
  generalize (((((w2.alloc (.cells #[.slice (some ⟨w0.heap.size + 1, 0, none⟩) 0 n] 23)).alloc (.cells #[.int .i64 0] 58)).alloc (.cells #[.bool false] 4)).alloc (.cells #[.bool false] 4)).iter (txt l) 0) = W1 at *
  generalize (Value.slice (some ⟨w0.heap.size + 1, 0, none⟩) 0 n) = vb0 at *
  generalize w2.heap.size + 1 + 1 + 1 + 1 = I0 at *
  generalize w2.heap.size + 1 + 1 + 1 = S0 at *
  generalize w2.heap.size + 1 + 1 = T0 at *
  generalize w2.heap.size + 1 = G0 at *
  generalize w2.heap.size = B0 at *
  generalize w0.heap.size = A0 at *
  have HX := Lib.hid (HX0.out _ _ _ _ _ HK.out)
  refine wp_loop_ghost_k (RIv w l pp bx A0 B0 G0 T0 S0 I0 nm val A) (n + 1) ?_ ?_
  · exact ⟨_, [], [], 0, _, _, _, _, _, _, 0, [], l, vb0, rfl, ⟨⟨rfl, rfl, rfl, rfl, rfl, rfl, rfl, rfl, rfl, rfl, rfl, rfl, rfl, rfl, rfl, rfl, rfl, rfl, rfl, rfl, (by show Value.int _ _ = Value.int _ _; first | rfl | go_num), rfl⟩, rfl, by decide, by simp, by simp, by decide, by decide, by simp, (fun h => absurd h (by omega)), HPW.out⟩, HRn.out, by omega⟩
  intro gk a1 wr hI J K hJ hK
  obtain ⟨us, args, buf, got, tq, sb, sq, ad, i, sk, m, p, rest, vb, rfl, H, hRn, hgl⟩ := hI
  refine v_round rfl HX.out H hRn hgl (fun a' w' h => ?_) (fun a' w' hb => ?_)
  · obtain ⟨k', h1, h2⟩ := h
    exact hK _ _ (Handed.intro k' h1 (hJ _ _ _ h2))
  · clear H hgl hJ hK hRn
    obtain ⟨us, args, buf, got, tq, sb, ad, i, sk, p, vb, rfl, fr, hgot, hargs, hA, hp⟩ := hb
    obtain ⟨hn, s0, s1, s6, s7, s8, s9, s10, s11, s12, s13, s14, s15, s16, s17, s18, s19, s20, s21, s22, s23, s50⟩ := fr
    rw [lit_all us hn, s0, s1, s6, s7, s8, s9, s10, s11, s12, s13, s14, s15, s16, s17, s18, s19, s20, s21, s22, s23, s50]
    clear hn s0 s1 s6 s7 s8 s9 s10 s11 s12 s13 s14 s15 s16 s17 s18 s19 s20 s21 s22 s23 s50
    have HPo := Lib.hid hp
    have CF := Lib.hid (flush_v w A0 B0 G0 T0 S0 I0 p (txt l) vb _ args buf [] got tq sb _ HK.out HPo.out (by omega) hgot)
    rw [show (if got == 2 || (got != 0 && !buf.isEmpty) then args ++ [buf] else args) = A from hA.symm] at CF
    have HAF := Lib.hid hA
    clear hp hA HPW HRn
    go_wp2_with fail
    refine CF.out.mono ?_
    rintro e wf ⟨rfl, vbf, hPF⟩
    have HPF := Lib.hid hPF
    obtain ⟨vaf, haf, harf⟩ := hPF.a
    obtain ⟨aof, capf, rfl⟩ := owns_slice harf
    have HOF := Lib.hid harf
    have hbf := hbpp.out wf hPF.bw
    have k2 : ∃ v, wf.cell? ⟨pp, 2, none⟩ = some v := by obtain ⟨v, hv⟩ := hc2.out; exact ⟨v, (World.cell?_of_block hbf).trans hv⟩
    obtain ⟨v2, k2⟩ := k2
    have g2 : wf.frozen? ⟨pp, 2, none⟩ = false := by
      have := hf2.out
      unfold World.frozen? at this ⊢
      rw [hbf]; exact this
    have kpp : pp < wf.heap.size := by have := hPF.bw.size; omega
    have kA : wf.cell? ⟨A0, 0, none⟩ = some (.slice aof A.length capf) := by simp [World.cell?, haf]
    have nAp : A0 ≠ pp := by have := HK.out.a; omega
    clear hPF haf harf hbf
    have HBF := Lib.hid HPF.out.bw
    go_wp2
    (try rw [Exit.noGoto_ret])
    go_ret2
    refine ⟨fun h => (by cases h), fun a' p' h => ?_⟩
    cases h
    exact ⟨aof, capf, wf, rfl, HBF.out, rfl, ownsRow_setCell_below HOF.out hpp _⟩

abbrev shellP (env : Bool) (vs : Value) : Value := .agg #[.bool env, .bool false, vs, .string (txt [])]
abbrev getV (bx : Nat) : Value := .func (Fn.func 28) #[] #[.pointer (some ⟨bx, 0, none⟩)]
def PPost (env : Bool) (vs : Value) (w : World) (e : Ending) (w' : World) : Prop := ∃ pp bx, e = .returned (.pointer (some ⟨pp, 0, none⟩)) ∧ w.heap.size ≤ pp ∧ pp < w'.heap.size ∧ Below w.heap.size w w' ∧
      w'.cell? ⟨pp, 0, none⟩ = some (.bool env) ∧ w'.cell? ⟨pp, 1, none⟩ = some (.bool false) ∧ w'.cell? ⟨pp, 2, none⟩ = some (.int .i64 0) ∧ w'.cell? ⟨pp, 4, none⟩ = some (getV bx) ∧ w'.frozen? ⟨pp, 2, none⟩ = false ∧ Ex pp [] w' ∧ w'.cell? ⟨bx, 2, none⟩ = some vs
theorem parser_vpost (env : Bool) (vs : Value) (w : World) (cap : Nat) (C : Array Value) (w' : World)
    (hw : w' = (((w.alloc (.cells #[.bool env, .bool false, vs, .string (txt [])] 30)).alloc (.cells #[.bool env, .bool false, .int .i64 0, .slice (some ⟨w.heap.size + 1 + 1, 0, none⟩) 0 cap, getV w.heap.size] 54)).alloc (.cells C 21)).drew) :
    PPost env vs w (.returned (.pointer (some ⟨w.heap.size + 1, 0, none⟩))) w' := by
  have s1 : (w.alloc (.cells #[.bool env, .bool false, vs, .string (txt [])] 30)).heap.size = w.heap.size + 1 := by simp
  generalize hB : Obj.cells #[.bool env, .bool false, .int .i64 0, .slice (some ⟨w.heap.size + 1 + 1, 0, none⟩) 0 cap, getV w.heap.size] 54 = B at hw
  have s2 : ((w.alloc (.cells #[.bool env, .bool false, vs, .string (txt [])] 30)).alloc B).heap.size = w.heap.size + 1 + 1 := by simp
  have h2 := heap_alloc_new (w.alloc (.cells #[.bool env, .bool false, vs, .string (txt [])] 30)) B
  rw [s1] at h2
  have h3 := heap_alloc_new ((w.alloc (.cells #[.bool env, .bool false, vs, .string (txt [])] 30)).alloc B) (.cells C 21)
  rw [s2] at h3
  have h4 := alloc_old ((w.alloc (.cells #[.bool env, .bool false, vs, .string (txt [])] 30)).alloc B) (.cells C 21) (w.heap.size + 1) (by omega)
  rw [h2, ← hB] at h4
  have sz : w'.heap.size = w.heap.size + 1 + 1 + 1 := by rw [hw]; simp
  have hb : Below w.heap.size w w' := by
    rw [hw]
    exact ((((Below.refl _ _).alloc (Nat.le_refl _) _).alloc (by simp) B).alloc (by simp; omega) _).drew
  have h4B : w'.heap[w.heap.size + 1]? = some (.cells #[.bool env, .bool false, .int .i64 0, .slice (some ⟨w.heap.size + 1 + 1, 0, none⟩) 0 cap, getV w.heap.size] 54 (0, 0)) := by rw [hw, ← hB]; exact h4
  have h4C : w'.heap[w.heap.size + 1 + 1]? = some (.cells C 21 (0, 0)) := by rw [hw]; exact h3
  have h0 : w'.heap[w.heap.size]? = some (.cells #[.bool env, .bool false, vs, .string (txt [])] 30 (0, 0)) := by
    rw [hw]
    show (World.alloc _ _).heap[w.heap.size]? = _
    rw [alloc_old _ _ _ (by simp; omega), alloc_old _ _ _ (by simp)]
    exact heap_alloc_new _ _
  refine ⟨w.heap.size + 1, w.heap.size, rfl, by omega, by omega, hb, by simp [World.cell?, h4B], by simp [World.cell?, h4B], by simp [World.cell?, h4B], by simp [World.cell?, h4B], by simp [World.frozen?, h4B], ⟨_, cap, by simp [World.cell?, h4B]; exact rfl, ?_⟩, by simp [World.cell?, h0]⟩
  intro j x hj
  simp at hj
set_option maxHeartbeats 1600000 in
theorem parser_v (env : Bool) (vs : Value) (w : World) : Calls Tryd.prog 25 #[shellP env vs] w (PPost env vs w) := by
  have hcv : ∀ W : World, (convert 9 51 (.string (txt []))).run Tryd.prog W = .ok (.slice (some ⟨W.heap.size, 0, none⟩) 0 (grownCap W 0 0 21)) (W.drew.alloc (.cells (runesCells W []) 21)) := fun W => run_text_runes W [] (fun x hx => by simp at hx) (by simp)
  go_enter Tryd.func25, Tryd.ntmps25
  go_wp2
  refine bodyPost_end (results_none rfl _ _ _) rfl ?_
  go_wp2
  go_ret
  generalize hcap : grownCap _ 0 0 21 = cap
  exact parser_vpost env vs w cap _ _ rfl
set_option maxHeartbeats 3200000 in
theorem words_gen (env : Bool) (vs : Value) (R : Option (List (List UInt8) × Int)) (l : List UInt8) (w : World) (hE : Er w)
    (hP : ∀ w1 pp bx ev, Below w.heap.size w w1 → pp < w1.heap.size → w1.cell? ⟨pp, 0, none⟩ = some (.bool env) → w1.cell? ⟨pp, 1, none⟩ = some (.bool false) → w1.cell? ⟨pp, 2, none⟩ = some (.int .i64 0) → w1.cell? ⟨pp, 4, none⟩ = some (getV bx) → w1.frozen? ⟨pp, 2, none⟩ = false → Ex pp [] w1 → w1.cell? ⟨bx, 2, none⟩ = some vs → w1.cell? ⟨0, 0, none⟩ = some ev →
      Calls Tryd.prog 26 #[.pointer (some ⟨pp, 0, none⟩), .string (txt l)] w1 (ParsePost R pp ev w1)) :
    Calls Tryd.prog 13 #[.string (txt l), shellP env vs] w (WordsPost R w) := by
  have CP := Lib.hid fun W => parser_v env vs W
  have HE := Lib.hid hE
  have HPP := Lib.hid hP
  clear hE hP
  go_enter Tryd.func13, Tryd.ntmps13
  go_wp2_with fail
  refine (CP.out _).mono ?_
  rintro e w1 ⟨pp, bx, rfl, hp0, hp1, hb1, c0, c1, c2, c4, f2, hX, cx⟩
  have hb1' := chain ((Below.refl w.heap.size w).alloc (Nat.le_refl _) _) hb1
  have hE1 := HE.out.below hb1'
  obtain ⟨tp, pv, hev⟩ := hE1
  have CQ := Lib.hid (HPP.out w1 pp bx (.iface tp pv) hb1' hp1 c0 c1 c2 c4 f2 hX cx hev)
  simp at hp0
  have HC2 := Lib.hid c2
  have HB1 := Lib.hid hb1'
  clear c0 c1 c2 c4 f2 hX cx hev hb1 hb1'
  go_wp2_with fail
  refine CQ.out.mono ?_
  rintro e w2 ⟨hN, hS⟩
  cases hRc : R with
  | none =>
    subst hRc
    obtain ⟨rfl, hb2⟩ := hN rfl
    have HB2 := Lib.hid (HB1.out.trans (hb2.mono (HB1.out.size)))
    clear hN hS hb2
    go_wp2
    go_ret3
    exact ⟨HB2.out, fun _ => rfl, fun _ _ h => (by cases h)⟩
  | some q =>
    obtain ⟨args, pos⟩ := q
    subst hRc
    obtain ⟨ao, cap, w3, rfl, hb3, rfl, hown⟩ := hS args pos rfl
    have c2 : (w3.setCell ⟨pp, 2, none⟩ (.int .i64 pos)).cell? ⟨pp, 2, none⟩ = some (.int .i64 pos) := cell_set_same ((hb3.cell hp1).trans HC2.out)
    have hb4 := (HB1.out.trans (hb3.mono HB1.out.size)).setCell (p := ⟨pp, 2, none⟩) (by show w.heap.size ≤ pp; omega) (.int .i64 pos)
    have HB2 := Lib.hid hb4
    have hown2 := owns_base hown HB1.out.size
    have HO := Lib.hid hown2
    generalize w3.setCell ⟨pp, 2, none⟩ (.int .i64 pos) = w4 at *
    clear hN hS hown hb3 hb4 hown2
    go_wp2
    go_quiet (fail)
    go_wp2
    go_ret3
    refine ⟨⟨HB2.out.os, HB2.out.tape, HB2.out.output, HB2.out.size, HB2.out.block⟩, fun h => (by cases h), fun a' p' h => ?_⟩
    cases h
    exact ⟨ao, cap, rfl, HO.out⟩


theorem words_v (nm val : List UInt8) (A : List (List UInt8)) (l : List UInt8) (ob ocap : Nat) (w : World) (hE : Er w) (hl : l.length ≤ 1000) (hv : val.length ≤ 1000) (ho0 : w.cell? ⟨ob, 0, none⟩ = some (.string (txt nm))) (ho1 : w.cell? ⟨ob, 1, none⟩ = some (.string (txt val)))
    (hN : Nt w) (hve : val ≠ []) (hvb : ∀ b ∈ val, 32 < b.toNat ∧ b.toNat < 128) (hns : ∀ b ∈ nm, simB b = true) (hne : nm ≠ []) (hRn : Rn nm val [] [] 0 false 0 l A) :
    Calls Tryd.prog 13 #[.string (txt l), shellP true (.slice (some ⟨ob, 0, none⟩) 1 ocap)] w (WordsPost (some (A, -1)) w) :=
  words_gen true _ _ l w hE fun w1 pp bx ev hb hpp c0 _ c2 c4 f2 hX cx _ => parse_v nm val A l pp bx ob ocap ev w1 hl hv hpp c0 ⟨_, c2⟩ c4 f2 hX cx ((hb.cell (World.block_lt_of_cell? w _ ho0)).trans ho0) ((hb.cell (World.block_lt_of_cell? w _ ho1)).trans ho1) (hN.below hb) hve hvb hns hne hRn
theorem words_n (l : List UInt8) (vs : Value) (w : World) (hE : Er w) (hl : l.length ≤ 100000) :
    Calls Tryd.prog 13 #[.string (txt l), shellP false vs] w (WordsPost (runS false [] Sx.start (rns l)) w) :=
  words_gen false _ _ l w hE fun w1 pp bx ev _ hpp c0 c1 c2 c4 f2 hX _ hev => parse_any false [] l pp (getV bx) ev w1 hl (by simp) hpp c0 c1 ⟨_, c2⟩ c4 f2 hX hev

theorem tabIs_of_readsV {P : Program} {W : World} {name : String} {k : IntKind} {zs : List Int} {g : Nat} {t e : TypeId} {n : Nat}
    (hg : P.globalNamed name = some g) (hty : (P.globals[g]?).map (·.type) = some t) (ht : P.underlying t = some (.array n e)) (he : P.underlying e = some (.int k)) (hce : P.cellsOf e = 1) (hct : P.cellsOf t = n)
    (h : VarReads P W name (tabData k zs)) : TabIs P W name k zs := by
  obtain ⟨g', t', cs, fuel, p, hg', ht', hvar, hd⟩ := h
  obtain rfl := Option.some.inj (hg.symm.trans hg')
  obtain rfl := Option.some.inj (hty.symm.trans ht')
  unfold TabIs
  rw [hvar, ← cells_of_tab ht he hce hct hd]
theorem nt_of {W : World} (hp : VarReads Tryd.prog W "unicode.properties" (tabData .u8 propertiesTab)) (hl : VarReads Tryd.prog W "unicode.Letter" (rtabData letterT)) (hd : VarReads Tryd.prog W "unicode.Digit" (rtabData digitT)) : Nt W :=
  ⟨tabIs_of_readsV (g := 1) (t := 66) (e := 5) (by kernel_rfl) (by kernel_rfl) Tryd.underlying66 Tryd.underlying5 (by kernel_rfl) (by kernel_rfl) hp,
   rvar_of_reads Tryd.lays261 ⟨by kernel_rfl, by kernel_rfl, by kernel_rfl, by kernel_rfl, by kernel_rfl, by kernel_rfl, by kernel_rfl, by kernel_rfl⟩ (by kernel_rfl) (by kernel_rfl) hl,
   rvar_of_reads Tryd.lays261 ⟨by kernel_rfl, by kernel_rfl, by kernel_rfl, by kernel_rfl, by kernel_rfl, by kernel_rfl, by kernel_rfl, by kernel_rfl⟩ (by kernel_rfl) (by kernel_rfl) hd⟩
section
variable {nm val : List UInt8} {args : List (List UInt8)} {rest : List UInt8} {A : List (List UInt8)} {sq : Bool}
theorem rn_skip {buf : List UInt8} {got : Nat} : ∀ (u : List UInt8), (∀ b ∈ u, b.toNat < 128) → Rn nm val args buf got sq 0 rest A → Rn nm val args buf got sq u.length (u ++ rest) A
  | [], _, h => h
  | b :: u, hu, h => .skip (hu b (by simp)) (rn_skip u (fun x hx => hu x (by simp [hx])) h)
theorem rn_puts : ∀ (u : List UInt8) (buf : List UInt8), (∀ b ∈ u, simB b = true) → Rn nm val args (buf ++ u) 1 sq 0 rest A → Rn nm val args buf 1 sq 0 (u ++ rest) A
  | [], buf, _, h => by rw [List.append_nil] at h; exact h
  | b :: u, buf, hu, h => .put (hu b (by simp)) (rn_puts u (buf ++ [b]) (fun x hx => hu x (by simp [hx])) (by rw [List.append_assoc]; exact h))
end
/-- The law's line. -/
def varL (nm : List UInt8) : List UInt8 := [112, 32, 36] ++ nm ++ [32, 39, 36] ++ nm ++ [39, 32, 36, 123] ++ nm ++ [125]
theorem fl_one (args : List (List UInt8)) (buf : List UInt8) (h : buf ≠ []) : fl args buf 1 = args ++ [buf] := by
  cases buf with
  | nil => exact absurd rfl h
  | cons b l => rfl
theorem sim_asc {nm : List UInt8} (h : ∀ b ∈ nm, simB b = true) : ∀ b ∈ nm, b.toNat < 128 := fun b hb => (name_sim (h b hb)).2
theorem var_line (nm val : List UInt8) (h : ∀ b ∈ nm, simB b = true) (hv : val ≠ []) : Rn nm val [] [] 0 false 0 (varL nm) [[112], val, 36 :: nm, val] := by
  have e : varL nm = 112 :: 32 :: 36 :: (nm ++ (32 :: 39 :: 36 :: (nm ++ (39 :: 32 :: 36 :: ((123 :: nm ++ [125]) ++ []))))) := by simp [varL]
  rw [e]
  refine .put (by decide) (.sp ?_)
  rw [fl_one _ _ (by simp)]
  refine .var (n := nm.length) (.inl ⟨rfl, _, rfl, .inr ⟨32, _, rfl, by decide, name_no.1⟩⟩) (rn_skip nm (sim_asc h) (.sp ?_))
  rw [fl_one _ _ (by simpa using hv)]
  refine .qo (.dol (rn_puts nm _ h (.qc (.sp ?_))))
  rw [show ∀ (x : List (List UInt8)) (y : List UInt8), fl x y 2 = x ++ [y] from fun _ _ => rfl]
  have hlen : (123 :: nm ++ [125]).length = nm.length + 2 := by simp
  refine .var (n := nm.length + 2) (.inr ⟨rfl, [], by simp⟩) ?_
  rw [← hlen]
  refine rn_skip _ (fun b hb => ?_) ?_
  · rcases List.mem_append.1 hb with hb | hb
    · rcases List.mem_cons.1 hb with rfl | hb
      · decide
      · exact sim_asc h b hb
    · rw [List.mem_singleton] at hb; subst hb; decide
  · have := @Rn.nil nm val ([] ++ [[] ++ [112]] ++ [[] ++ val] ++ [[] ++ [36] ++ nm]) ([] ++ val) 1
    rw [fl_one _ _ (by simpa using hv)] at this
    simpa using this
theorem var_a : Rn [65] [98] [] [] 0 false 0 [36, 65] [[98]] :=
  .var (n := 1) (.inl ⟨rfl, [], rfl, .inl rfl⟩) (.skip (by decide) .nil)
theorem sim_mark {b : UInt8} (h : simB b = true) : markB b = false := by
  have hb : ((List.range 256).all fun n => !(simB n.toUInt8) || !(markB n.toUInt8)) = true := by kernel_rfl
  have h1 := List.all_eq_true.1 hb b.toNat (List.mem_range.2 b.toNat_lt)
  have e : b.toNat.toUInt8 = b := UInt8.toNat_inj.1 (u8_toNat b.toNat_lt)
  rw [e, h] at h1
  simpa using h1
theorem step_ad (cmt : Bool) (ex : List Nat) (s : Sx) (x : Bool) (r : Nat) (h : r ≠ 40) : stepS cmt ex { s with ad := x } r = stepS cmt ex s r := by
  unfold stepS switchS
  simp only [h, if_false]
theorem dol_run (nm : List UInt8) (h : ∀ b ∈ nm, simB b = true) (h0 : nm ≠ []) : runS false [] Sx.start (rns (36 :: nm)) = some ([36 :: nm], -1) := by
  rw [rns_asc _ (fun b hb => by
    rcases List.mem_cons.1 hb with rfl | hb
    · decide
    · exact sim_asc h b hb)]
  cases nm with
  | nil => exact absurd rfl h0
  | cons b nm =>
    have hm : ∀ x ∈ b :: nm, markB x = false ∨ (x.toNat < 128 ∧ ([] : List Nat).any (· == x.toNat) = true ∧ x.toNat ≠ 92) := fun x hx => .inl (sim_mark (h x hx))
    obtain ⟨j, hj⟩ := goes_bare (ex := []) (b :: nm) [] [36] 1 0 hm
    rw [if_neg (by simp)] at hj
    have hb40 : b.toNat ≠ 40 := by have := mark_not (sim_mark (h b (by simp))); omega
    have h1 : runS false [] (st0 [] [36] 1 0) ((b :: nm).map UInt8.toNat) = some ([36 :: b :: nm], -1) := by
      have := goes_run (cmt := false) (ex := []) [] hj
      rw [List.append_nil] at this
      rw [this]
      exact fin_st0 _ _ _ (by simp)
    have h2 : runS false [] { st0 [] [36] 1 0 with ad := true } ((b :: nm).map UInt8.toNat) = runS false [] (st0 [] [36] 1 0) ((b :: nm).map UInt8.toNat) := by
      rw [List.map_cons]
      unfold runS
      rw [step_ad false [] (st0 [] [36] 1 0) true b.toNat hb40]
    exact h2.trans h1

end Go.Proofs.YthekblmkcfkboaaDoor
