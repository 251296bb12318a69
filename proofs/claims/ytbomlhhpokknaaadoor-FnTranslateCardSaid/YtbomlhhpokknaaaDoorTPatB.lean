/- Pattern of the reference, with '^' ahead: its walk. -/
import Derived.Test.YtbomlhhpokknaaaDoorTPatR
import Derived.Deep.RegionLaw
import Derived.Deep.AppendLies
import Derived.BigQuiet
import Derived.Deep.QuietTactic
import Derived.Deep.CutBlock
namespace Go.Proofs.YtbomlhhpokknaaaDoor
open Go.RowKit U8
open Go.Lib hiding intOf

theorem PX.hat {B r0 x0 g : Nat} {ps : List Nat} {w wr : World} (k : PB B r0 x0 g w.heap.size) (h : PX B r0 x0 g 0 (94 :: ps) [] false w wr) : PX B r0 x0 g 1 ps [] true w (wr.setCell ⟨x0, 1, none⟩ (.bool true)) := by
  obtain ⟨v, hx, hown⟩ := h.x
  refine ⟨?_, ⟨v, cells_set hx 1 _, ownsRow_setCell_below hown k.l2 _⟩, fun j x hj => ?_, h.bw.setCell k.g1 _, ?_⟩
  · rw [Below.heap_setCell _ _ _ _ (fun e => k.d2 e.symm)]; exact h.res
  · rw [World.cell?_setCell_other _ _ _ _ (fun e => k.d1 (congrArg Addr.block e))]
    have := h.p (j + 1) x (by simpa using hj)
    rw [Nat.zero_add] at this
    rw [show 1 + j = j + 1 by omega]; exact this
  · rw [set_size]; exact h.hB

set_option maxHeartbeats 6400000 in
set_option maxRecDepth 100000 in
theorem pat_B (tt : Bool) (rs : List Nat) (w : World) (hs : Scs rs) (hl : (enc rs).length ≤ 2147483647) (hnt : notOf tt rs = true) (hT : Tabs w) :
    Calls Tryd.prog 29 #[.string (txt (enc rs)), .bool tt] w (PatPost (pat tt rs) true w) := by
  obtain ⟨i0, hi, hz0, hz1, hz2⟩ := info_parts Tryd.info21
  have hlr := enc_length_ge rs
  have hcv := fun W => run_text_runesB W rs hs (by omega)
  have b1 := (Below.refl w.heap.size w).alloc (Nat.le_refl _) (.cells #[.slice none 0 0, .bool false] 51)
  have b2 := b1.alloc b1.size (.cells #[.slice none 0 0, .bool false] 51)
  have e2 : ((w.alloc (.cells #[.slice none 0 0, .bool false] 51)).alloc (.cells #[.slice none 0 0, .bool false] 51)).heap.size = w.heap.size + 1 + 1 := by simp
  have cS := settled1 (txt (enc rs)) true ((w.alloc (.cells #[.slice none 0 0, .bool false] 51)).alloc (.cells #[.slice none 0 0, .bool false] 51)) (by rw [txt_size]; omega) (hT.below b2) (by rw [txt_list]; exact valid_enc rs hs)
  rw [e2] at cS
  have CS := Lib.hid cS
  have hk1 : Hid (((w.alloc (.cells #[.slice none 0 0, .bool false] 51)).alloc (.cells #[.slice none 0 0, .bool false] 51)).heap[w.heap.size]? = some (.cells #[.slice none 0 0, .bool false] 51 (0, 0))) := by
    show _ = _
    rw [Below.heap_alloc _ _ _ (by simp)]
    exact heap_alloc_new _ _
  have hk2 : Hid (((w.alloc (.cells #[.slice none 0 0, .bool false] 51)).alloc (.cells #[.slice none 0 0, .bool false] 51)).heap[w.heap.size + 1]? = some (.cells #[.slice none 0 0, .bool false] 51 (0, 0))) := by
    show _ = _
    have h := heap_alloc_new (w.alloc (.cells #[.slice none 0 0, .bool false] 51)) (.cells #[.slice none 0 0, .bool false] 51)
    rw [show (w.alloc (.cells #[.slice none 0 0, .bool false] 51)).heap.size = w.heap.size + 1 by simp] at h
    exact h
  have HB2 := Lib.hid b2
  clear b1 b2 cS e2
  go_enter Tryd.func29, Tryd.ntmps29
  go_wp2_with fail
  refine CS.out.mono ?_
  rintro e w1 ⟨rfl, hb1⟩
  go_upto_region 5 with fail
  have hs1 : w.heap.size + 1 + 1 ≤ w1.heap.size := by have := hb1.size; simp at this; omega
  have HK : Hid (PB (w1.heap.size + 1) w.heap.size (w.heap.size + 1) w1.heap.size w.heap.size) := by
    show PB _ _ _ _ _
    exact ⟨by omega, by omega, by omega, by omega, by omega, by omega, by omega, by omega, by omega⟩
  have hbr : Below (w.heap.size + 1 + 1) ((w.alloc (.cells #[.slice none 0 0, .bool false] 51)).alloc (.cells #[.slice none 0 0, .bool false] 51)) (runesWorld w1 rs) := runesWorld_below hb1 hs1 rs
  have HPX : Hid (PX (w1.heap.size + 1) w.heap.size (w.heap.size + 1) w1.heap.size 0 rs [] false w (runesWorld w1 rs)) := by
    show PX _ _ _ _ _ _ _ _ _ _
    refine ⟨by rw [hbr.block _ (by omega)]; exact hk1.out, ⟨.slice none 0 0, by rw [hbr.block _ (by omega)]; exact hk2.out, World.ownsRow_nil _ _ _ _⟩, fun j x hj => ?_, HB2.out.trans (hbr.mono (by omega)), by rw [runesWorld_size]; exact Nat.le_refl _⟩
    rw [Nat.zero_add, runesWorld_cell w1 rs j (List.getElem?_eq_some_iff.1 hj).1, cells_get, hj]
    rfl
  have hcap : rs.length ≤ grownCap w1 rs.length 0 21 := grownCap_ge w1 rs.length 0 21
  clear hk1 hk2 HB2 CS hb1 hs1 hbr hcv
  generalize grownCap w1 rs.length 0 21 = cap at *
  generalize runesWorld w1 rs = W0 at *
  generalize w1.heap.size + 1 = B at *
  generalize w1.heap.size = g at *
  generalize w.heap.size + 1 = x0 at *
  have htt : tt = false := by
    cases tt with
    | false => rfl
    | true => cases hnt
  obtain ⟨ps, rfl⟩ : ∃ ps, rs = 94 :: ps := by
    cases rs with
    | nil => cases tt <;> cases hnt
    | cons c r =>
      have e : c = 94 := by rw [htt] at hnt; simpa [notOf] using hnt
      exact ⟨r, by rw [e]⟩
  have HTT := Lib.hid htt
  have HPAT : Hid (pat tt (94 :: ps) = if ps.length = 0 then none else patF tt true (ps.length + 1) true false [] ps) := by
    show _ = _
    unfold pat; rw [hnt]; simp
  have hsps : Scs ps := fun x hx => hs x (List.mem_cons_of_mem _ hx)
  have cc := HPX.out.p 0 94 rfl
  rw [Nat.add_zero] at cc
  clear htt hnt hs
  generalize hn : (94 :: ps).length = n at *
  rw [List.length_cons] at hn
  have hn1 : n ≤ ps.length + 1 := by omega
  have hn2 : ps.length + 1 ≤ n := by omega
  have hn3 : n ≤ 2147483647 := by omega
  clear hn
  go_cut [32] (fun s W => s = .bool true ∧ W = W0)
  case first =>
    as_aux_lemma =>
      have htt := HTT.out
      subst htt
      have hlp : 0 < n := by omega
      clear HTT HPAT
      go_wp2
      go_meet
      exact ⟨rfl, rfl⟩
  case rest =>
  as_aux_lemma =>
    obtain ⟨rfl, hwc⟩ := hcut
    obtain rfl := hwc.symm
    by_cases hp0 : ps.length = 0
    · have HRN : Hid (pat tt (94 :: ps) = none) := by
        show _ = _
        rw [HPAT.out, if_pos hp0]
      obtain ⟨ac0, hac⟩ : ∃ l : List Nat, l = [] := ⟨_, rfl⟩
      rw [← hac] at HPX
      have HAC := Lib.hid hac
      clear hac
      obtain ⟨ao, cp, c0, c1, f0, f1, c2, c3, f2, f3, hx0, hr0, _⟩ := HPX.out.cells
      have HQ := Lib.hid (px_ret HK.out HPX.out (.slice ao (ac0.length) cp) (.bool false))
      have hn5 : ((n : Int) == 1) = true := by simp; omega
      clear hn1 hn2 HPAT
      go_wp2
      (try simp only [Exit.inBlock, Exit.then])
      refine bodyPost_ret (pat_results rfl rfl HQ.out.1 HQ.out.2.1) rfl ?_
      exact PatPost.open HRN.out HQ.out.2.2.1 rfl
    have HRA : Hid (pat tt (94 :: ps) = patF tt true (ps.length + 1) true false [] ps) := by
      show _ = _
      rw [HPAT.out, if_neg hp0]
    have hn5 : ((n : Int) == 1) = false := by simp; omega
    have hn6 : 1 ≤ n := by omega
    have hn7 : 2 ≤ cap := by omega
    have HPY := Lib.hid (HPX.out.hat HK.out)
    have hxb : x0 < W0.heap.size := by obtain ⟨ao, cp, c0, c1, f0, f1, c2, c3, f2, f3, hx0, hr0, _⟩ := HPX.out.cells; exact hx0
    go_upto_region 8 with fail
    go_cut [7] (fun s W => ∃ cp : Nat, s = .slice (some ⟨g, 1, none⟩) ps.length cp ∧ ps.length ≤ cp ∧ Hid (PX B w.heap.size x0 g 1 ps [] true w W))
    case first =>
      as_aux_lemma =>
        obtain ⟨ao, cp, c0, c1, f0, f1, c2, c3, f2, f3, hx0, hr0, _⟩ := HPX.out.cells
        clear hp0 HPAT HRA
        go_region
        all_goals
          go_wp2
          go_meet
          first
            | exact ⟨cap - 1, by rw [show n - 1 = ps.length by omega], by omega, HPY.out.drew⟩
            | (exfalso; omega)
    case rest =>
    as_aux_lemma =>
      obtain ⟨cp0, rfl, hcap2, HPZ⟩ := hcut
      clear HPX HPY HPAT cc hcap hn5 hn6 hn7 hlr
      obtain ⟨HPX, _⟩ : ∃ _ : Hid (PX B w.heap.size x0 g 1 ps [] true w _), True := ⟨HPZ, trivial⟩
      go_wp2
      obtain ⟨R, hR⟩ : ∃ R, patF tt true (ps.length + 1) true false [] ps = R := ⟨_, rfl⟩
      have HRP : Hid (pat tt (94 :: ps) = R) := by show _ = _; rw [HRA.out]; exact hR
      have HR0 := Lib.hid hR.symm
      clear hR
      go_loopg [8, 9] (ps.length + 1) (fun gk sg i wr => ∃ (k : Nat) (rest acc : List Nat) (si fi : Bool) (f : Nat), sg = .bool si ∧ i = .int .i64 k ∧ k + rest.length ≤ ps.length ∧ ps.length ≤ k + rest.length ∧ rest.length < gk ∧ rest.length ≤ f ∧ (fi = false → 0 < k) ∧ (fi = true → k = 0) ∧ acc.length ≤ 5001 * k ∧ (si = true → acc ≠ []) ∧ Hid (∀ x ∈ acc, x ≤ 1114111) ∧ Hid (R = patF tt true f fi si acc rest) ∧ Hid (PX B w.heap.size x0 g 1 ps acc true w wr) ∧ Hid (ps.drop k = rest))
      case atStart => exact ⟨0, ps, [], false, true, (ps.length + 1), rfl, rfl, by omega, by omega, by omega, by omega, ff_of, fun _ => rfl, Nat.zero_le _, tf_of, nil_le.out, HR0.out, HPX.out, rfl⟩
      case round =>
        obtain ⟨k, rest, acc, si, fi, f, rfl, rfl, hkn1, hkn2, hg, hf, hfi0, hfi1, hal, hsi, HAB, HR, HP, HD⟩ := hrel
        obtain ⟨ao, cp, c0, c1, f0, f1, c2, c3, f2, f3, hx0, hr0, hown⟩ := HP.out.cells
        have HOWN := Lib.hid hown
        clear HPX HR0 hown
        cases rest with
        | nil =>
          have HRN : Hid (R = some acc) := by have h := HR.out; cases f <;> exact h
          have hge : ¬ (k : Int) < (ps.length : Int) := by simp at hkn1 hkn2; omega
          have HQ := Lib.hid (px_ret HK.out HP.out (.slice ao acc.length cp) (.bool true))
          clear HR
          go_wp2
          (try simp only [Exit.inBlock, Exit.then])
          refine bodyPost_ret (pat_results rfl rfl HQ.out.1 HQ.out.2.1) rfl ?_
          exact PatPost.yes (HRP.out.trans HRN.out) HQ.out.2.2.1 rfl (HQ.out.2.2.2 _ _ _ HOWN.out)
        | cons c r =>
          obtain ⟨hck, HD2⟩ := drop_get HD.out
          have cc := HP.out.p k c hck
          have hcm : c ∈ ps := List.mem_of_getElem? hck
          have hcs := (hsps c hcm).i32
          have hc11 : c ≤ 1114111 := by have h := hsps c hcm; unfold Sc at h; omega
          have HDD := Lib.hid HD2
          obtain ⟨f, rfl⟩ : ∃ m, f = m + 1 := ⟨f - 1, by rw [List.length_cons] at hf; omega⟩
          obtain ⟨gk, rfl⟩ : ∃ m, gk = m + 1 := ⟨gk - 1, by omega⟩
          rw [List.length_cons] at hkn1 hkn2 hg hf
          have hkb : k ≤ 2147483647 := by omega
          have hnb : ps.length ≤ 2147483647 := by omega
          have hlt : k < ps.length := by omega
          have hal2 : acc.length ≤ 20000000000000 := by omega
          have HD0 := Lib.hid HD.out
          clear HD2 hck HD hcm
          skip
          by_cases h92 : c = 92
          · as_aux_lemma =>
              subst h92
              cases r with
              | nil =>
                have HRN : Hid (R = none) := HR.out.trans patF_esc0
                have hk1 : ((k : Int) + 1 == (ps.length : Int)) = true := by simp at hkn1 hkn2; simp; omega
                clear HR
                have HQ := Lib.hid (px_ret HK.out HP.out (.slice ao (acc.length) cp) (.bool true))
                go_wp2
                (try simp only [Exit.inBlock, Exit.then])
                refine bodyPost_ret (pat_results rfl rfl HQ.out.1 HQ.out.2.1) rfl ?_
                exact PatPost.open (HRP.out.trans HRN.out) HQ.out.2.2.1 rfl
              | cons d r2 =>
                obtain ⟨hcd, HD3⟩ := drop_get HDD.out
                have cd := HP.out.p (k + 1) d hcd
                have hdm : d ∈ ps := List.mem_of_getElem? hcd
                have hds := (hsps d hdm).i32
                have hd11 : d ≤ 1114111 := by have h := hsps d hdm; unfold Sc at h; omega
                have HDD2 := Lib.hid HD3
                rw [List.length_cons] at hkn1 hkn2 hg hf
                skip
                have hk1 : ((k : Int) + 1 == (ps.length : Int)) = false := by simp; omega
                have hk2 : k + 1 < ps.length := by omega
                have hk3 : (k : Int) + 1 < (ps.length : Int) := by omega
                clear HD3 hcd hdm HDD HD0
                cases hbd : badD d with
                | false =>
                  have HRN : Hid (R = none) := HR.out.trans (patF_esc1 hbd)
                  have hb1 : ((d : Int) != 92) = true := by unfold badD at hbd; simp at hbd; rw [bne_iff_ne]; omega
                  have hb2 : ((d : Int) != 45) = true := by unfold badD at hbd; simp at hbd; rw [bne_iff_ne]; omega
                  have hb3 : ((d : Int) != 94) = true := by unfold badD at hbd; simp at hbd; rw [bne_iff_ne]; omega
                  clear HR hbd
                  have HQ := Lib.hid (px_ret HK.out HP.out (.slice ao (acc.length) cp) (.bool true))
                  go_wp2
                  (try simp only [Exit.inBlock, Exit.then])
                  refine bodyPost_ret (pat_results rfl rfl HQ.out.1 HQ.out.2.1) rfl ?_
                  exact PatPost.open (HRP.out.trans HRN.out) HQ.out.2.2.1 rfl
                | true =>
                  have HRR : Hid (R = if hd45 r2 then none else patF tt true f false false (acc ++ [d]) r2) := by
                    have h := HR.out
                    rw [patF_esc hbd] at h
                    exact h
                  have HAB2 : Hid (∀ x ∈ acc ++ [d], x ≤ 1114111) := HAB.out |> all_snoc hd11
                  have hb3 : d = 92 ∨ d = 45 ∨ d = 94 := by unfold badD at hbd; simp at hbd; omega
                  clear HR HAB hbd
                  go_upto_region 16 with fail
                  go_cut [87] (fun s W => s = .bool false ∧ W = wr)
                  case first =>
                    as_aux_lemma =>
                      rcases hb3 with rfl | rfl | rfl <;> (go_wp2; go_meet; exact ⟨rfl, rfl⟩)
                  case rest =>
                  as_aux_lemma =>
                    obtain ⟨rfl, hwc⟩ := hcut
                    obtain rfl := hwc.symm
                    clear hb3
                    go_upto_region 19 with fail
                    go_cut [8] (fun s W => s = .bool false ∧ Hid (PX B w.heap.size x0 g 1 ps (acc ++ [d]) true w W))
                    case first =>
                      as_aux_lemma =>
                        have HONE := Lib.hid (show ∀ (j : Nat) (u : Value), [Value.int IntKind.i32 (d : Int)][j]? = some u → (wr.alloc (.cells #[.int .i32 (d : Int)] 21)).drew.cell? ((⟨wr.heap.size, 0, none⟩ : Addr).add j) = some u from one_cell wr (d : Int))
                        have hBs := HP.out.hB
                        have hw3 : (0 : Int) ≤ (k : Int) + 1 := by omega
                        have hw5 : ((k : Int) + 1).toNat = k + 1 := by omega
                        go_region_law (refine step_append_lies _ rfl (.tmp 92) (.tmp 97) 49 rfl B 21 i0 (.int .i32 0) 1 4 Tryd.underlying49 hi hz0 hz1 hz2 rfl (by decide) (.slice ao acc.length cp) acc.length (cells acc) (by simp [Act.eval]) (World.ownsRow.drew (World.ownsRow.alloc HOWN.out (.cells #[.int .i32 (d : Int)] 21))) ⟨wr.heap.size, 0, none⟩ 1 1 [.int .i32 d] (by simp [Act.eval]) rfl HONE.out (by intro u hu; simp at hu; subst hu; rfl) (by decide) (by unfold maxLen; omega) (by omega) (by simp; omega) _ rfl ?_; intro ga cp2 w2 hown' hgrow hor hlt2; obtain ⟨e0, e1, e2, hP2⟩ := HP.out.app HK.out c0 (show (wr.alloc (.cells #[.int .i32 (d : Int)] 21)).grownBy w2 _ from ⟨hgrow.os, hgrow.tape, hgrow.output, hgrow.size, hgrow.block⟩) hown'; clear hor hlt2 hown' hgrow; have HP2 := Lib.hid hP2; clear hP2)
                        all_goals
                          go_wp2
                          go_meet
                          exact ⟨rfl, HP2⟩
                    case rest =>
                    as_aux_lemma =>
                      obtain ⟨rfl, HP2⟩ := hcut
                      have HP3 := HP2.out
                      have HR3 := HRR.out
                      have HA3 := HAB2.out
                      obtain ⟨nl, hnl⟩ : ∃ nl, acc ++ [d] = nl := ⟨_, rfl⟩
                      have hnll : nl.length ≤ 5001 * (k + 1 + 1) := by rw [← hnl, List.length_append, List.length_singleton]; omega
                      rw [hnl] at HP3 HR3 HA3
                      have HP4 := Lib.hid HP3
                      have HR4 := Lib.hid HR3
                      have HA4 := Lib.hid HA3
                      clear HP3 HR3 HA3 hnl HP2 HRR HAB2
                      clear c0 c1 f0 f1 c2 c3 f2 f3 hx0 hr0 HOWN HP
                      obtain ⟨ao3, cp3, c0, c1, f0, f1, c2, c3, f2, f3, hx0, hr0, hown3⟩ := HP4.out.cells
                      clear hown3
                      cases r2 with
                      | nil =>
                        have HR5 : Hid (R = patF tt true f false false nl []) := HR4.out
                        have hkk2 : ¬ ((k : Int) + 1 + 1) < (ps.length : Int) := by simp at hkn1 hkn2; omega
                        have hkn3 : k + 1 + 1 ≤ ps.length := by simp at hkn1 hkn2; omega
                        have hkn4 : ps.length ≤ k + 1 + 1 := by simp at hkn1 hkn2; omega
                        clear HR4 hkn1 hkn2
                        go_wp2
                        go_roundg gk
                        case rel => exact ⟨k + 1 + 1, [], nl, false, false, f, rfl, by go_num, by simp; omega, by simp; omega, by simp at hg ⊢; omega, by simp, fun _ => by omega, ff_of', hnll, tf_of, HA4.out, HR5.out, HP4.out, HDD2.out⟩
                        case measure => omega
                      | cons ee r3 =>
                        obtain ⟨hce, _⟩ := drop_get HDD2.out
                        have ce := HP4.out.p (k + 1 + 1) ee hce
                        have hkk : ((k : Int) + 1 + 1) < (ps.length : Int) := by simp at hkn1 hkn2; omega
                        have hkk2 : k + 1 + 1 < ps.length := by simp at hkn1 hkn2; omega
                        skip
                        clear hce
                        by_cases h45 : ee = 45
                        · subst h45
                          have HRN : Hid (R = none) := HR4.out
                          clear HR4
                          have HQ := Lib.hid (px_ret HK.out HP4.out (.slice ao3 (nl.length) cp3) (.bool true))
                          go_wp2
                          (try simp only [Exit.inBlock, Exit.then])
                          refine bodyPost_ret (pat_results rfl rfl HQ.out.1 HQ.out.2.1) rfl ?_
                          exact PatPost.open (HRP.out.trans HRN.out) HQ.out.2.2.1 rfl
                        · have hce45 : ((ee : Int) == 45) = false := by simp; omega
                          have HR5 : Hid (R = patF tt true f false false nl (ee :: r3)) := by
                            have h := HR4.out
                            rw [if_neg (by unfold hd45; simp [h45])] at h
                            exact h
                          clear HR4 h45
                          go_wp2
                          go_roundg gk
                          case rel => exact ⟨k + 1 + 1, ee :: r3, nl, false, false, f, rfl, by go_num, by simp at hkn1 hkn2 ⊢; omega, by simp at hkn1 hkn2 ⊢; omega, by simp at hg ⊢; omega, by simp at hf ⊢; omega, fun _ => by omega, ff_of', hnll, tf_of, HA4.out, HR5.out, HP4.out, HDD2.out⟩
                          case measure => omega
          have n92 : ((c : Int) == 92) = false := by simp; omega
          by_cases h45 : c = 45
          · as_aux_lemma =>
              subst h45
              cases si with
              | false =>
                have HRN : Hid (R = none) := HR.out.trans patF_das0
                clear HR
                have HQ := Lib.hid (px_ret HK.out HP.out (.slice ao (acc.length) cp) (.bool true))
                go_wp2
                (try simp only [Exit.inBlock, Exit.then])
                refine bodyPost_ret (pat_results rfl rfl HQ.out.1 HQ.out.2.1) rfl ?_
                exact PatPost.open (HRP.out.trans HRN.out) HQ.out.2.2.1 rfl
              | true =>
              have hacc := hsi rfl
              cases r with
              | nil =>
                have HRN : Hid (R = none) := HR.out.trans patF_das1
                have hk1 : ((k : Int) + 1 == (ps.length : Int)) = true := by simp at hkn1 hkn2; simp; omega
                clear HR
                have HQ := Lib.hid (px_ret HK.out HP.out (.slice ao (acc.length) cp) (.bool true))
                go_wp2
                (try simp only [Exit.inBlock, Exit.then])
                refine bodyPost_ret (pat_results rfl rfl HQ.out.1 HQ.out.2.1) rfl ?_
                exact PatPost.open (HRP.out.trans HRN.out) HQ.out.2.2.1 rfl
              | cons d r2 =>
                obtain ⟨hcd, HD3⟩ := drop_get HDD.out
                have cd := HP.out.p (k + 1) d hcd
                have hdm : d ∈ ps := List.mem_of_getElem? hcd
                have hds := (hsps d hdm).i32
                have hd11 : d ≤ 1114111 := by have h := hsps d hdm; unfold Sc at h; omega
                have HDD2 := Lib.hid HD3
                rw [List.length_cons] at hkn1 hkn2 hg hf
                skip
                have hk1 : ((k : Int) + 1 == (ps.length : Int)) = false := by simp; omega
                have hk2 : k + 1 < ps.length := by omega
                have hk3 : (k : Int) + 1 < (ps.length : Int) := by omega
                clear HD3 hcd hdm HDD HD0
                cases hbd : badD d with
                | true =>
                  have HRN : Hid (R = none) := HR.out.trans (patF_das2 hbd)
                  have hb3 : d = 92 ∨ d = 45 ∨ d = 94 := by unfold badD at hbd; simp at hbd; omega
                  have HQ := Lib.hid (px_ret HK.out HP.out (.slice ao (acc.length) cp) (.bool true))
                  clear HR hbd
                  rcases hb3 with rfl | rfl | rfl
                  all_goals
                    go_wp2
                    (try simp only [Exit.inBlock, Exit.then])
                    refine bodyPost_ret (pat_results rfl rfl HQ.out.1 HQ.out.2.1) rfl ?_
                    exact PatPost.open (HRP.out.trans HRN.out) HQ.out.2.2.1 rfl
                | false =>
                  have hb1 : ((d : Int) == 92) = false := by unfold badD at hbd; simp at hbd; simp; omega
                  have hb2 : ((d : Int) == 45) = false := by unfold badD at hbd; simp at hbd; simp; omega
                  have hb3 : ((d : Int) == 94) = false := by unfold badD at hbd; simp at hbd; simp; omega
                  have hlg := last_get hacc
                  have ha11 := HAB.out _ (getD_mem hacc)
                  have hpos : 0 < acc.length := List.length_pos_iff.2 hacc
                  obtain ⟨ga, _, hga⟩ := owns_some HOWN.out hpos
                  subst hga
                  have cl : wr.cell? ⟨ga, acc.length - 1, none⟩ = some (.int .i32 ((acc.getLastD 0 : Nat) : Int)) := by
                    rw [World.ownsRow.cellAt HOWN.out _ (by omega), cells_get, hlg]; rfl
                  have hw1 : IntKind.i64.wrap ((acc.length : Int) - 1) = (acc.length : Int) - 1 := IntWalk.i64_in _ (by omega)
                  have hw2 : IntKind.i64.wrap ((k : Int) + 1) = (k : Int) + 1 := IntWalk.i64_in _ (by omega)
                  have hw3 : (0 : Int) ≤ (acc.length : Int) - 1 := by omega
                  have hw4 : ((acc.length : Int) - 1).toNat = acc.length - 1 := by omega
                  have hw5 : ((k : Int) + 1).toNat = k + 1 := by omega
                  have hw6 : (acc.length : Int) - 1 < (acc.length : Int) := by omega
                  have hw7 : acc.length - 1 < acc.length := by omega
                  have hw8 : 1 ≤ acc.length := by omega
                  have hHR := HR.out
                  generalize hla : acc.getLastD 0 = a at *
                  have HLA := Lib.hid hla
                  clear hla hlg hacc hsi HR
                  by_cases hA1 : a > d + 5000
                  · have HRN : Hid (R = none) := hHR.trans (patF_das3 hbd (by rw [HLA.out]; exact .inl hA1))
                    clear hHR hbd
                    go_wp2
                    go_quiet (fail)
                    clear hw1 hw2 hw3 hw4 hw5 hw6 hw7
                    have hI : 5000 < (a : Int) - (d : Int) := by omega
                    have HP1 := Lib.hid (HP.out.drewN nq)
                    generalize wr.drewN nq = W1 at *
                    clear c0 c1 f0 f1 c2 c3 f2 f3 hx0 hr0
                    obtain ⟨ao, cp, c0, c1, f0, f1, c2, c3, f2, f3, hx0, hr0, _⟩ := HP1.out.cells
                    have HQ := Lib.hid (px_ret HK.out HP1.out (.slice ao (acc.length) cp) (.bool true))
                    go_wp2
                    (try simp only [Exit.inBlock, Exit.then])
                    refine bodyPost_ret (pat_results rfl rfl HQ.out.1 HQ.out.2.1) rfl ?_
                    exact PatPost.open (HRP.out.trans HRN.out) HQ.out.2.2.1 rfl
                  by_cases hA2 : d > a + 5000
                  · have HRN : Hid (R = none) := hHR.trans (patF_das3 hbd (by rw [HLA.out]; exact .inr hA2))
                    clear hHR hbd
                    go_wp2
                    go_quiet (fail)
                    clear hw1 hw2 hw3 hw4 hw5 hw6 hw7
                    have hI : ¬ 5000 < (a : Int) - (d : Int) := by omega
                    have hI2 : 5000 < (d : Int) - (a : Int) := by omega
                    have HP1 := Lib.hid (HP.out.drewN nq)
                    generalize wr.drewN nq = W1 at *
                    clear c0 c1 f0 f1 c2 c3 f2 f3 hx0 hr0
                    obtain ⟨ao, cp, c0, c1, f0, f1, c2, c3, f2, f3, hx0, hr0, _⟩ := HP1.out.cells
                    have HQ := Lib.hid (px_ret HK.out HP1.out (.slice ao (acc.length) cp) (.bool true))
                    go_wp2
                    (try simp only [Exit.inBlock, Exit.then])
                    refine bodyPost_ret (pat_results rfl rfl HQ.out.1 HQ.out.2.1) rfl ?_
                    exact PatPost.open (HRP.out.trans HRN.out) HQ.out.2.2.1 rfl
                  have HRE : Hid (R = match expF 5001 a d acc with | none => none | some acc2 => if hd45 r2 then none else patF tt true f false false acc2 r2) := by
                    have h := hHR.trans (patF_das4 hbd (by rw [HLA.out]; omega))
                    rw [HLA.out] at h
                    exact h
                  obtain ⟨E, hE⟩ : ∃ E, expF 5001 a d acc = E := ⟨_, rfl⟩
                  rw [hE] at HRE
                  have HE := Lib.hid hE.symm
                  have hI : ¬ 5000 < (a : Int) - (d : Int) := by omega
                  have hI2 : ¬ 5000 < (d : Int) - (a : Int) := by omega
                  clear hHR hE
                  go_wp2
                  go_quiet (fail)
                  clear hw1 hw2 hw3 hw4 hw5 hw6 hw7 cl
                  have HP1 := Lib.hid (HP.out.drewN nq)
                  generalize wr.drewN nq = W1 at *
                  clear c0 c1 f0 f1 c2 c3 f2 f3 hx0 hr0 HP HOWN cc cd
                  go_wp2
                  obtain ⟨go, rfl⟩ : ∃ go : Nat, go = gk := ⟨_, rfl⟩
                  go_loopg [11] 5002 (fun gk av wr => ∃ (z : Int) (acc2 : List Nat) (f2 : Nat), av = .int .i32 z ∧ 0 ≤ z ∧ z ≤ 1114111 ∧ z - d < f2 ∧ (d : Int) - z < f2 ∧ f2 < gk ∧ acc2.length + f2 ≤ acc.length + 5001 ∧ Hid (∀ x ∈ acc2, x ≤ 1114111) ∧ Hid (E = expF f2 z.toNat d acc2) ∧ Hid (PX B w.heap.size x0 g 1 ps acc2 true w wr))
                  case atStart => exact ⟨a, acc, 5001, rfl, by omega, by omega, by omega, by omega, by omega, by omega, HAB.out, HE.out, HP1.out⟩
                  case round =>
                    obtain ⟨z, acc2, f2', rfl, hzz0, hzz1, hzd1, hzd2, hgk2, hal3, HAB3, HE2, HP5⟩ := hrel
                    obtain ⟨f2', rfl⟩ : ∃ m, f2' = m + 1 := ⟨f2' - 1, by omega⟩
                    obtain ⟨gk, rfl⟩ : ∃ m, gk = m + 1 := ⟨gk - 1, by omega⟩
                    obtain ⟨wi, rfl⟩ : ∃ wi : World, wi = wr := ⟨_, rfl⟩
                    obtain ⟨ao5, cp5, c0, c1, f0, f1, c2, c3, f2, f3, hx0, hr0, hown5⟩ := HP5.out.cells
                    have HOWN5 := Lib.hid hown5
                    have hal5 : acc2.length ≤ 20000000000000 := by omega
                    clear hown5 HP1 HE HAB
                    by_cases hzd : z = (d : Int)
                    · subst hzd
                      have hE2 : E = some acc2 := by
                        rw [HE2.out, show ((d : Nat) : Int).toNat = d by omega]; unfold expF; rw [if_pos rfl]
                      have HR4 : Hid (R = if hd45 r2 then none else patF tt true f false false acc2 r2) := by
                        have h := HRE.out; rw [hE2] at h; exact h
                      have hbb : ((d : Int) != (d : Int)) = false := by simp
                      have hnll : acc2.length ≤ 5001 * (k + 1 + 1) := by omega
                      clear hE2 HE2 HRE HOWN5
                      obtain ⟨nl, rfl⟩ : ∃ nl, nl = acc2 := ⟨_, rfl⟩
                      obtain ⟨HP4, _⟩ : ∃ _ : Hid (PX B w.heap.size x0 g 1 ps nl true w wi), True := ⟨HP5, trivial⟩
                      obtain ⟨HA4, _⟩ : ∃ _ : Hid (∀ x ∈ nl, x ≤ 1114111), True := ⟨HAB3, trivial⟩
                      cases r2 with
                      | nil =>
                        have HR5 : Hid (R = patF tt true f false false nl []) := HR4.out
                        have hkk2 : ¬ ((k : Int) + 1 + 1) < (ps.length : Int) := by simp at hkn1 hkn2; omega
                        have hkn3 : k + 1 + 1 ≤ ps.length := by simp at hkn1 hkn2; omega
                        have hkn4 : ps.length ≤ k + 1 + 1 := by simp at hkn1 hkn2; omega
                        clear HR4 hkn1 hkn2
                        go_wp2
                        go_roundg go
                        case rel => exact ⟨k + 1 + 1, [], nl, false, false, f, rfl, by go_num, by simp; omega, by simp; omega, by simp at hg ⊢; omega, by simp, fun _ => by omega, ff_of', hnll, tf_of, HA4.out, HR5.out, HP4.out, HDD2.out⟩
                        case measure => omega
                      | cons ee r3 =>
                        obtain ⟨hce, _⟩ := drop_get HDD2.out
                        have ce := HP4.out.p (k + 1 + 1) ee hce
                        have hkk : ((k : Int) + 1 + 1) < (ps.length : Int) := by simp at hkn1 hkn2; omega
                        have hkk2 : k + 1 + 1 < ps.length := by simp at hkn1 hkn2; omega
                        skip
                        clear hce
                        by_cases h45 : ee = 45
                        · subst h45
                          have HRN : Hid (R = none) := HR4.out
                          clear HR4
                          have HQ := Lib.hid (px_ret HK.out HP4.out (.slice ao5 (nl.length) cp5) (.bool true))
                          go_wp2
                          (try simp only [Exit.inBlock, Exit.then])
                          refine bodyPost_ret (pat_results rfl rfl HQ.out.1 HQ.out.2.1) rfl ?_
                          exact PatPost.open (HRP.out.trans HRN.out) HQ.out.2.2.1 rfl
                        · have hce45 : ((ee : Int) == 45) = false := by simp; omega
                          have HR5 : Hid (R = patF tt true f false false nl (ee :: r3)) := by
                            have h := HR4.out
                            rw [if_neg (by unfold hd45; simp [h45])] at h
                            exact h
                          clear HR4 h45
                          go_wp2
                          go_roundg go
                          case rel => exact ⟨k + 1 + 1, ee :: r3, nl, false, false, f, rfl, by go_num, by simp at hkn1 hkn2 ⊢; omega, by simp at hkn1 hkn2 ⊢; omega, by simp at hg ⊢; omega, by simp at hf ⊢; omega, fun _ => by omega, ff_of', hnll, tf_of, HA4.out, HR5.out, HP4.out, HDD2.out⟩
                          case measure => omega
                    · have hbb : (z != (d : Int)) = true := by rw [bne_iff_ne]; exact hzd
                      by_cases hlt : z < (d : Int)
                      · obtain ⟨y, hy⟩ : ∃ y : Nat, z + 1 = (y : Int) := ⟨(z + 1).toNat, by omega⟩
                        have hst : E = if sgt y then none else expF f2' y d (acc2 ++ [y]) := by
                          have h := HE2.out
                          unfold expF at h
                          rw [if_neg (show ¬ z.toNat = d by omega), if_pos (show z.toNat < d by omega), show z.toNat + 1 = y by omega] at h
                          exact h
                        have HY := Lib.hid hy
                        clear HE2
                        by_cases hs : 55296 ≤ y ∧ y ≤ 57343
                        · have HRN : Hid (R = none) := by
                            have h := HRE.out
                            rw [hst, if_pos (by unfold sgt; exact decide_eq_true hs)] at h
                            exact h
                          have hs1 : 55296 ≤ z + 1 := by omega
                          have hs2 : z + 1 ≤ 57343 := by omega
                          clear hst hy HRE hs
                          have HQ := Lib.hid (px_ret HK.out HP5.out (.slice ao5 (acc2.length) cp5) (.bool true))
                          go_wp2
                          (try simp only [Exit.inBlock, Exit.then])
                          refine bodyPost_ret (pat_results rfl rfl HQ.out.1 HQ.out.2.1) rfl ?_
                          exact PatPost.open (HRP.out.trans HRN.out) HQ.out.2.2.1 rfl
                        · have HE3 : Hid (E = expF f2' y d (acc2 ++ [y])) := by
                            show E = _
                            rw [hst, if_neg (by unfold sgt; rw [decide_eq_false hs]; simp)]
                          by_cases hs1 : 55296 ≤ z + 1
                          · have hs2 : ¬ z + 1 ≤ 57343 := by omega
                            clear hst hy hs
                            have HONE := Lib.hid (one_cell wi (z + 1))
                            go_wp2_with (at_builtin; refine wpList_append_own _ rfl _ _ 49 rfl B 21 i0 (.int .i32 0) 1 4 Tryd.underlying49 hi hz0 hz1 hz2 rfl (by decide) (.slice ao5 acc2.length cp5) acc2.length (cells acc2) rfl (World.ownsRow.alloc HOWN5.out _) ⟨wi.heap.size, 0, none⟩ 1 1 [.int .i32 (z + 1)] rfl rfl HONE.out (by intro u hu; simp at hu; subst hu; rfl) (by unfold maxLen; omega) (by omega) (by have := HP5.out.hB; simp; omega) ?_)
                            intro v' w2 hown' hgrow _
                            obtain ⟨ao2, cp2, rfl⟩ := owns_slice hown'
                            rw [HY.out] at hown'
                            obtain ⟨e0, e1, e2, hP2⟩ := HP5.out.app HK.out c0 hgrow hown'
                            have HP6 := Lib.hid hP2
                            clear hP2 hown' hgrow
                            go_wp2
                            go_roundg gk
                            case rel => exact ⟨z + 1, acc2 ++ [y], f2', rfl, by omega, by omega, by omega, by omega, by omega, by rw [List.length_append, List.length_singleton]; omega, all_snoc (by have := HY.out; omega) HAB3.out, by rw [show (z + 1).toNat = y by have := HY.out; omega]; exact HE3.out, HP6.out⟩
                            case measure => omega
                          · clear hst hy hs
                            have HONE := Lib.hid (one_cell wi (z + 1))
                            go_wp2_with (at_builtin; refine wpList_append_own _ rfl _ _ 49 rfl B 21 i0 (.int .i32 0) 1 4 Tryd.underlying49 hi hz0 hz1 hz2 rfl (by decide) (.slice ao5 acc2.length cp5) acc2.length (cells acc2) rfl (World.ownsRow.alloc HOWN5.out _) ⟨wi.heap.size, 0, none⟩ 1 1 [.int .i32 (z + 1)] rfl rfl HONE.out (by intro u hu; simp at hu; subst hu; rfl) (by unfold maxLen; omega) (by omega) (by have := HP5.out.hB; simp; omega) ?_)
                            intro v' w2 hown' hgrow _
                            obtain ⟨ao2, cp2, rfl⟩ := owns_slice hown'
                            rw [HY.out] at hown'
                            obtain ⟨e0, e1, e2, hP2⟩ := HP5.out.app HK.out c0 hgrow hown'
                            have HP6 := Lib.hid hP2
                            clear hP2 hown' hgrow
                            go_wp2
                            go_roundg gk
                            case rel => exact ⟨z + 1, acc2 ++ [y], f2', rfl, by omega, by omega, by omega, by omega, by omega, by rw [List.length_append, List.length_singleton]; omega, all_snoc (by have := HY.out; omega) HAB3.out, by rw [show (z + 1).toNat = y by have := HY.out; omega]; exact HE3.out, HP6.out⟩
                            case measure => omega
                      · obtain ⟨y, hy⟩ : ∃ y : Nat, z - 1 = (y : Int) := ⟨(z - 1).toNat, by omega⟩
                        have hst : E = if sgt y then none else expF f2' y d (acc2 ++ [y]) := by
                          have h := HE2.out
                          unfold expF at h
                          rw [if_neg (show ¬ z.toNat = d by omega), if_neg (show ¬ z.toNat < d by omega), show z.toNat - 1 = y by omega] at h
                          exact h
                        have HY := Lib.hid hy
                        clear HE2
                        by_cases hs : 55296 ≤ y ∧ y ≤ 57343
                        · have HRN : Hid (R = none) := by
                            have h := HRE.out
                            rw [hst, if_pos (by unfold sgt; exact decide_eq_true hs)] at h
                            exact h
                          have hs1 : 55296 ≤ z - 1 := by omega
                          have hs2 : z - 1 ≤ 57343 := by omega
                          clear hst hy HRE hs
                          have HQ := Lib.hid (px_ret HK.out HP5.out (.slice ao5 (acc2.length) cp5) (.bool true))
                          go_wp2
                          (try simp only [Exit.inBlock, Exit.then])
                          refine bodyPost_ret (pat_results rfl rfl HQ.out.1 HQ.out.2.1) rfl ?_
                          exact PatPost.open (HRP.out.trans HRN.out) HQ.out.2.2.1 rfl
                        · have HE3 : Hid (E = expF f2' y d (acc2 ++ [y])) := by
                            show E = _
                            rw [hst, if_neg (by unfold sgt; rw [decide_eq_false hs]; simp)]
                          by_cases hs1 : 55296 ≤ z - 1
                          · have hs2 : ¬ z - 1 ≤ 57343 := by omega
                            clear hst hy hs
                            have HONE := Lib.hid (one_cell wi (z - 1))
                            go_wp2_with (at_builtin; refine wpList_append_own _ rfl _ _ 49 rfl B 21 i0 (.int .i32 0) 1 4 Tryd.underlying49 hi hz0 hz1 hz2 rfl (by decide) (.slice ao5 acc2.length cp5) acc2.length (cells acc2) rfl (World.ownsRow.alloc HOWN5.out _) ⟨wi.heap.size, 0, none⟩ 1 1 [.int .i32 (z - 1)] rfl rfl HONE.out (by intro u hu; simp at hu; subst hu; rfl) (by unfold maxLen; omega) (by omega) (by have := HP5.out.hB; simp; omega) ?_)
                            intro v' w2 hown' hgrow _
                            obtain ⟨ao2, cp2, rfl⟩ := owns_slice hown'
                            rw [HY.out] at hown'
                            obtain ⟨e0, e1, e2, hP2⟩ := HP5.out.app HK.out c0 hgrow hown'
                            have HP6 := Lib.hid hP2
                            clear hP2 hown' hgrow
                            go_wp2
                            go_roundg gk
                            case rel => exact ⟨z - 1, acc2 ++ [y], f2', rfl, by omega, by omega, by omega, by omega, by omega, by rw [List.length_append, List.length_singleton]; omega, all_snoc (by have := HY.out; omega) HAB3.out, by rw [show (z - 1).toNat = y by have := HY.out; omega]; exact HE3.out, HP6.out⟩
                            case measure => omega
                          · clear hst hy hs
                            have HONE := Lib.hid (one_cell wi (z - 1))
                            go_wp2_with (at_builtin; refine wpList_append_own _ rfl _ _ 49 rfl B 21 i0 (.int .i32 0) 1 4 Tryd.underlying49 hi hz0 hz1 hz2 rfl (by decide) (.slice ao5 acc2.length cp5) acc2.length (cells acc2) rfl (World.ownsRow.alloc HOWN5.out _) ⟨wi.heap.size, 0, none⟩ 1 1 [.int .i32 (z - 1)] rfl rfl HONE.out (by intro u hu; simp at hu; subst hu; rfl) (by unfold maxLen; omega) (by omega) (by have := HP5.out.hB; simp; omega) ?_)
                            intro v' w2 hown' hgrow _
                            obtain ⟨ao2, cp2, rfl⟩ := owns_slice hown'
                            rw [HY.out] at hown'
                            obtain ⟨e0, e1, e2, hP2⟩ := HP5.out.app HK.out c0 hgrow hown'
                            have HP6 := Lib.hid hP2
                            clear hP2 hown' hgrow
                            go_wp2
                            go_roundg gk
                            case rel => exact ⟨z - 1, acc2 ++ [y], f2', rfl, by omega, by omega, by omega, by omega, by omega, by rw [List.length_append, List.length_singleton]; omega, all_snoc (by have := HY.out; omega) HAB3.out, by rw [show (z - 1).toNat = y by have := HY.out; omega]; exact HE3.out, HP6.out⟩
                            case measure => omega
          have n45 : ((c : Int) == 45) = false := by simp; omega
          by_cases h94 : c = 94 ∧ tt = false
          · as_aux_lemma =>
              obtain ⟨rfl, rfl⟩ := h94
              have hfn : fi = false ∨ true = true := .inr rfl
              have HRR : Hid (R = if hd45 r then none else patF false true f false false (acc ++ [94]) r) := by
                have h := HR.out
                rw [patF_hat hfn] at h
                exact h
              have HAB2 : Hid (∀ x ∈ acc ++ [94], x ≤ 1114111) := HAB.out |> all_snoc hc11
              clear HR HAB HD0 h92 h45
              go_upto_region 39 with fail
              go_cut [214] (fun s W => s = .bool true ∧ W = wr)
              case first =>
                as_aux_lemma =>
                  rcases Nat.eq_zero_or_pos k with hk0 | hk0
                  · subst hk0
                    clear hfi0 hfi1
                    go_wp2
                    go_meet
                    exact ⟨rfl, rfl⟩
                  · have hk0' : (0 : Int) < (k : Int) := by omega
                    go_wp2
                    go_meet
                    exact ⟨rfl, rfl⟩
              case rest =>
              as_aux_lemma =>
                obtain ⟨rfl, hwc⟩ := hcut
                obtain rfl := hwc.symm
                have HONE := Lib.hid (one_cell wr (94 : Int))
                go_wp2_with (at_builtin; refine wpList_append_own _ rfl _ _ 49 rfl B 21 i0 (.int .i32 0) 1 4 Tryd.underlying49 hi hz0 hz1 hz2 rfl (by decide) (.slice ao acc.length cp) acc.length (cells acc) rfl (World.ownsRow.alloc HOWN.out _) ⟨wr.heap.size, 0, none⟩ 1 1 [.int .i32 94] rfl rfl HONE.out (by intro u hu; simp at hu; subst hu; rfl) (by unfold maxLen; omega) (by omega) (by have := HP.out.hB; simp; omega) ?_)
                intro v' w2 hown' hgrow _
                obtain ⟨ao2, cp2, rfl⟩ := owns_slice hown'
                obtain ⟨e0, e1, e2, hP2⟩ := HP.out.app HK.out c0 hgrow hown'
                have HP2 := Lib.hid hP2
                clear hP2 hown' hgrow
                have HP3 := HP2.out
                have HR3 := HRR.out
                have HA3 := HAB2.out
                obtain ⟨nl, hnl⟩ : ∃ nl, acc ++ [94] = nl := ⟨_, rfl⟩
                have hnll : nl.length ≤ 5001 * (k + 1) := by rw [← hnl, List.length_append, List.length_singleton]; omega
                rw [hnl] at HP3 HR3 HA3
                have HP4 := Lib.hid HP3
                have HR4 := Lib.hid HR3
                have HA4 := Lib.hid HA3
                clear HP3 HR3 HA3 hnl HP2 HRR HAB2
                go_upto_region 41 with fail
                generalize w2.setCell ⟨x0, 0, none⟩ (.slice ao2 (acc.length + 1) cp2) = W3 at *
                clear e0 e1 e2 c0 c1 f0 f1 c2 c3 f2 f3 hx0 hr0 HOWN HP
                obtain ⟨ao3, cp3, c0, c1, f0, f1, c2, c3, f2, f3, hx0, hr0, hown3⟩ := HP4.out.cells
                clear hown3
                cases r with
                | nil =>
                  have HR5 : Hid (R = patF false true f false false nl []) := HR4.out
                  have hkk2 : ¬ ((k : Int) + 1) < (ps.length : Int) := by simp at hkn1 hkn2; omega
                  have hkn3 : k + 1 ≤ ps.length := by simp at hkn1 hkn2; omega
                  have hkn4 : ps.length ≤ k + 1 := by simp at hkn1 hkn2; omega
                  clear HR4 hkn1 hkn2
                  go_wp2
                  go_roundg gk
                  case rel => exact ⟨k + 1, [], nl, false, false, f, rfl, by go_num, by simp; omega, by simp; omega, by simp at hg ⊢; omega, by simp, fun _ => by omega, ff_of', hnll, tf_of, HA4.out, HR5.out, HP4.out, HDD.out⟩
                  case measure => omega
                | cons ee r3 =>
                  obtain ⟨hce, _⟩ := drop_get HDD.out
                  have ce := HP4.out.p (k + 1) ee hce
                  have hkk : ((k : Int) + 1) < (ps.length : Int) := by simp at hkn1 hkn2; omega
                  have hkk2 : k + 1 < ps.length := by simp at hkn1 hkn2; omega
                  skip
                  clear hce
                  by_cases h45 : ee = 45
                  · subst h45
                    have HRN : Hid (R = none) := HR4.out
                    clear HR4
                    have HQ := Lib.hid (px_ret HK.out HP4.out (.slice ao3 (nl.length) cp3) (.bool true))
                    go_wp2
                    (try simp only [Exit.inBlock, Exit.then])
                    refine bodyPost_ret (pat_results rfl rfl HQ.out.1 HQ.out.2.1) rfl ?_
                    exact PatPost.open (HRP.out.trans HRN.out) HQ.out.2.2.1 rfl
                  · have hce45 : ((ee : Int) == 45) = false := by simp; omega
                    have HR5 : Hid (R = patF false true f false false nl (ee :: r3)) := by
                      have h := HR4.out
                      rw [if_neg (by unfold hd45; simp [h45])] at h
                      exact h
                    clear HR4 h45
                    go_wp2
                    go_roundg gk
                    case rel => exact ⟨k + 1, ee :: r3, nl, false, false, f, rfl, by go_num, by simp at hkn1 hkn2 ⊢; omega, by simp at hkn1 hkn2 ⊢; omega, by simp at hg ⊢; omega, by simp at hf ⊢; omega, fun _ => by omega, ff_of', hnll, tf_of, HA4.out, HR5.out, HP4.out, HDD.out⟩
                    case measure => omega
          · have HRR : Hid (R = patF tt true f false true (acc ++ [c]) r) := by
              have h := HR.out
              rw [patF_dflt h92 h45 (fun q => h94 ⟨q.1, q.2.2⟩)] at h
              exact h
            have HAB2 : Hid (∀ x ∈ acc ++ [c], x ≤ 1114111) := HAB.out |> all_snoc hc11
            clear HR HAB
            by_cases hc94 : c = 94
            · exact absurd ⟨hc94, HTT.out⟩ h94
            · have n94 : ((c : Int) == 94) = false := by simp; omega
              clear h92 h45 h94 hc94
              have HONE := Lib.hid (one_cell wr (c : Int))
              go_wp2_with (at_builtin; refine wpList_append_own _ rfl _ _ 49 rfl B 21 i0 (.int .i32 0) 1 4 Tryd.underlying49 hi hz0 hz1 hz2 rfl (by decide) (.slice ao acc.length cp) acc.length (cells acc) rfl (World.ownsRow.alloc HOWN.out _) ⟨wr.heap.size, 0, none⟩ 1 1 [.int .i32 c] rfl rfl HONE.out (by intro u hu; simp at hu; subst hu; rfl) (by unfold maxLen; omega) (by omega) (by have := HP.out.hB; simp; omega) ?_)
              intro v' w2 hown' hgrow _
              obtain ⟨ao2, cp2, rfl⟩ := owns_slice hown'
              obtain ⟨e0, e1, e2, hP2⟩ := HP.out.app HK.out c0 hgrow hown'
              have HP2 := Lib.hid hP2
              clear hP2 hown' hgrow
              go_wp2
              go_roundg gk
              case rel => exact ⟨k + 1, r, acc ++ [c], true, false, f, rfl, by go_num, by omega, by omega, by omega, by omega, fun _ => by omega, ff_of', by simp; omega, fun _ => by simp, HAB2.out, HRR.out, HP2.out, HDD.out⟩
              case measure => omega

end Go.Proofs.YtbomlhhpokknaaaDoor
