/- properties.parse: the properties of a text, or an error. Condition: the text's length. -/
import Derived.Test.YtdfhidnhkeapbaaGreatDoorLxPs
import Derived.WalkMore
import Derived.ScopeJumps
namespace Go.Proofs.YtdfhidnhkeapbaaGreatDoor
open Go.RowKit U8
open Go.Lib hiding intOf

theorem newProps3 (w : World) :
    Calls Tryz.prog 29 #[] w fun e w' => e = .returned (.pointer (some ⟨w.heap.size + 3, 0, none⟩)) ∧
      w'.heap[w.heap.size]? = some (.map #[] 0) ∧
      w'.heap[w.heap.size + 1]? = some (.map #[] 0) ∧
      w'.heap[w.heap.size + 2]? = some (.cells #[] 9 (0, 0)) ∧
      w'.heap[w.heap.size + 3]? = some (.cells #[.string ⟨#[36, 123]⟩, .string ⟨#[125]⟩, .bool false, .map (some w.heap.size), .map (some (w.heap.size + 1)), .slice (some ⟨w.heap.size + 2, 0, none⟩) 0 0, .string ⟨#[]⟩] 63 (0, 0)) ∧
      Below w.heap.size w w' ∧ w'.heap.size = w.heap.size + 4 := by
  have hmm := @run_makeMap Tryz.prog
  go_enter Tryz.func29, Tryz.ntmps29
  go_wp2
  go_ret
  refine ⟨rfl, ?_, ?_, ?_, ?_, ?_, by simp⟩
  · rw [al_old _ _ _ (by simp; omega), al_old _ _ _ (by simp; omega), al_old _ _ _ (by simp), al_new w _ _ rfl]
  · rw [al_old _ _ _ (by simp), al_old _ _ _ (by simp), al_new _ _ _ (by simp)]
  · rw [al_old _ _ _ (by simp), al_new _ _ _ (by simp)]
  · rw [al_new _ _ _ (by simp)]
  · have b1 := (Below.refl w.heap.size w).alloc (Nat.le_refl _) (.map #[] 0)
    have b2 := b1.alloc b1.size (.map #[] 0)
    have b3 := b2.alloc b2.size (.cells #[] 9)
    exact b3.alloc b3.size _
/-- A set of properties in memory: its own block b, the map m of its values, the map cb of its comments. -/
def Po (B b m cb : Nat) (d : Bool) (kv : KV2) (cs : CS2) (W : World) : Prop :=
  B ≤ b ∧ B ≤ m ∧ B ≤ cb ∧ m ≠ cb ∧ ∃ vk vc, W.heap[b]? = some (.cells #[.string ⟨#[36, 123]⟩, .string ⟨#[125]⟩, .bool d, .map (some m), .map (some cb), vk, .string ⟨#[]⟩] 63 (0, 0)) ∧
    MB m (kvW (sV kv)) W ∧ (kv.map Prod.fst).Nodup ∧ Cm vk vc cb cs W ∧ (cs.map Prod.fst).Nodup ∧ W.ownsRow B 9 1 vk (kv.map Prod.fst).length (strsV (kv.map Prod.fst))
theorem Po.set {B b m cb e0 : Nat} {d : Bool} {kv : KV2} {cs : CS2} {W W' : World} {x : Array Value} {fz : Nat × Nat} (h : Po B b m cb d kv cs W) (he : W.heap[e0]? = some (.cells x 90 fz)) (hk : ∀ r, r ≠ e0 → W'.heap[r]? = W.heap[r]?) : Po B b m cb d kv cs W' := by
  obtain ⟨h1, h2, h3, h4, vk, vc, ho, hm, hn, hc, hcn, hr⟩ := h
  obtain ⟨_, _, hmc⟩ := hm.cells
  obtain ⟨cw, hc1, hc2, hc3⟩ := id hc
  obtain ⟨_, _, hcb⟩ := hc2.cells
  exact ⟨h1, h2, h3, h4, vk, vc, (hk _ (ne_of_types ho he (by decide))).trans ho, hm.of (hk _ (ne_of_map he hmc).symm), hn, hc.keep (hk _ (ne_of_map he hcb).symm) (fun g y fz hg a b => ⟨hk _ (ne_of_types hg he (by decide)), a, b⟩), hcn, owns_of hr fun g hg => by
    obtain ⟨y, fz, hy⟩ := own_kind hr hg
    exact hk _ (ne_of_types hy he (by decide))⟩
theorem PS.po {B e0 ps lb gi pb m cb : Nat} {vk vc : Value} {its : List LI} {ks : List (List UInt8)} {kv : KV2} {cs : CS2} {co : List (List UInt8)} {W : World} (h : PS B e0 ps lb gi pb m cb vk vc its ks kv cs co W) (hks : ks = kv.map Prod.fst) : Po B pb m cb false kv cs W :=
  ⟨h.base.2.2.1, h.base.2.2.2.1, h.base.2.2.2.2, h.mc, vk, vc, h.obj, h.mm, h.mn, h.cc, h.cn, by rw [← hks]; exact h.keys⟩
/-- Steps that leave all blocks but one of an item. -/
theorem PS.far {B e0 ps lb gi pb m cb : Nat} {vk vc : Value} {its : List LI} {ks : List (List UInt8)} {kv : KV2} {cs : CS2} {co : List (List UInt8)} {W W' : World} (h : PS B e0 ps lb gi pb m cb vk vc its ks kv cs co W) {X : Nat} {x : Array Value} {fz0 : Nat × Nat} (hx : W.heap[X]? = some (.cells x 138 fz0)) (hX : X ≠ gi) (hk : ∀ r, r ≠ X → W'.heap[r]? = W.heap[r]?) : PS B e0 ps lb gi pb m cb vk vc its ks kv cs co W' := by
  have s : ∀ {r : Nat} {o : Obj}, W.heap[r]? = some o → r ≠ X → W'.heap[r]? = some o := fun hr hne => (hk _ hne).trans hr
  have sx : ∀ {g : Nat} {y : Array Value} {fz : Nat × Nat}, W.heap[g]? = some (.cells y 9 fz) → g ≠ X := fun hg => ne_of_types hg hx (by decide)
  obtain ⟨_, _, hm⟩ := h.mm.cells
  obtain ⟨cw, hc1, hc2, hc3⟩ := h.cc
  obtain ⟨_, _, hcb⟩ := hc2.cells
  obtain ⟨⟨xl, hxl⟩, _⟩ := h.lex.cells
  exact { lex := h.lex.keep (hk _ (ne_of_types hxl hx (by decide))) (hk _ hX.symm), err := s h.err (ne_of_types h.err hx (by decide)), par := s h.par (ne_of_types h.par hx (by decide)), obj := s h.obj (ne_of_types h.obj hx (by decide)),
          mm := h.mm.of (hk _ (ne_of_map hx hm).symm), mn := h.mn,
          cc := h.cc.keep (hk _ (ne_of_map hx hcb).symm) fun g y fz hg h1 h2 => ⟨hk _ (sx hg), h1, h2⟩, cn := h.cn,
          keys := owns_of h.keys fun g hg => by
            obtain ⟨y, fz, hy⟩ := own_kind h.keys hg
            exact hk _ (sx hy),
          coms := owns_of h.coms fun g hg => by
            obtain ⟨y, fz, hy⟩ := own_kind h.coms hg
            exact hk _ (sx hy),
          apart := h.apart, mc := h.mc, base := h.base }
theorem parse_cmt (v : List UInt8) (t : List It) (kv : KV2) (cs : CS2) (co : List (List UInt8)) : parseM ((4, v) :: t) kv cs co = parseM t kv cs (co ++ [v]) := by rw [parseM.eq_def]; rfl
theorem parse_eof (v : List UInt8) (t : List It) (kv : KV2) (cs : CS2) (co : List (List UInt8)) : parseM ((1, v) :: t) kv cs co = some (kv, cs) := by rw [parseM.eq_def]; rfl
theorem parse_kv (k v : List UInt8) (t : List It) (kv : KV2) (cs : CS2) (co : List (List UInt8)) : parseM ((2, k) :: (3, v) :: t) kv cs co = parseM t (updA kv (k, v)) (putC cs k co) [] := by rw [parseM.eq_def]; rfl
theorem parse_ke (k v : List UInt8) (t : List It) (kv : KV2) (cs : CS2) (co : List (List UInt8)) : parseM ((2, k) :: (1, v) :: t) kv cs co = some (updA kv (k, []), putC cs k co) := by rw [parseM.eq_def]; rfl
theorem parse_kx (k v : List UInt8) (y : Nat) (t : List It) (kv : KV2) (cs : CS2) (co : List (List UInt8)) (h1 : y ≠ 1) (h3 : y ≠ 3) : parseM ((2, k) :: (y, v) :: t) kv cs co = none := by
  rw [parseM.eq_def]
  show (if y = 1 then _ else if y = 3 then _ else none) = none
  rw [if_neg h1, if_neg h3]
theorem parse_x (v : List UInt8) (x : Nat) (t : List It) (kv : KV2) (cs : CS2) (co : List (List UInt8)) (h1 : x ≠ 1) (h2 : x ≠ 2) (h4 : x ≠ 4) : parseM ((x, v) :: t) kv cs co = none := by
  rw [parseM.eq_def]
  show (if x = 1 then _ else if x = 4 then _ else if x = 2 then _ else none) = none
  rw [if_neg h1, if_neg h4, if_neg h2]
def ParseP (w : World) (s : List UInt8) (e : Ending) (w' : World) : Prop := Below w.heap.size w w' ∧
  ((parseM (lexT s) [] [] [] = none ∧ ∃ p a, e = .returned (.tuple #[.pointer p, .iface 161 (.pointer (some ⟨a, 0, none⟩))])) ∨
   ∃ kv cs b m cb, parseM (lexT s) [] [] [] = some (kv, cs) ∧ e = .returned (.tuple #[.pointer (some ⟨b, 0, none⟩), .nilIface]) ∧ Po w.heap.size b m cb false kv cs w')
theorem Lq.mono {B B2 b g : Nat} {its : List LI} {W : World} (h : Lq B b g its W) (hB : B2 ≤ B) : Lq B2 b g its W := by
  obtain ⟨h1, c0, c1, c2, c3, c4, c5, c6, o, cap, cur, fz, h2, h3, r⟩ := h
  exact ⟨by omega, c0, c1, c2, c3, c4, c5, c6, o, cap, cur, fz, h2, by omega, r⟩
/-- What holds where the parser jumps to its end. -/
def ParJ (w : World) (R : Option (KV2 × CS2)) (a : Act) (W : World) : Prop :=
  ∃ (kv : KV2) (cs : CS2) (b m cb ps : Nat) (u0 u1 u4 u5 u6 u7 u8 u9 u10 u11 u12 u13 u14 u15 u16 u17 u18 u19 u20 u21 u22 u23 u24 u25 u26 u27 u28 u29 u30 u31 u32 u33 u34 u35 u36 u37 u38 u39 u40 u41 u42 u43 u44 u45 u46 u47 u48 u49 u50 u51 u52 u53 u54 u55 u56 u57 u58 u59 u60 u61 u62 u63 u64 u65 u66 u67 u68 u69 u70 u71 u72 u73 u74 u75 u76 u77 u78 u79 u80 u81 u82 u83 u84 u85 u86 u87 : Value), a = { tmps := #[u0, u1, .pointer (some ⟨b, 0, none⟩), .pointer (some ⟨w.heap.size, 0, none⟩), u4, u5, u6, u7, u8, u9, u10, u11, u12, u13, u14, u15, u16, u17, u18, u19, u20, u21, u22, u23, u24, u25, u26, u27, u28, u29, u30, u31, u32, u33, u34, u35, u36, u37, u38, u39, u40, u41, u42, u43, u44, u45, u46, u47, u48, u49, u50, u51, u52, u53, u54, u55, u56, u57, u58, u59, u60, u61, u62, u63, u64, u65, u66, u67, u68, u69, u70, u71, u72, u73, u74, u75, u76, u77, u78, u79, u80, u81, u82, u83, u84, u85, u86, u87], defers := [{ target := .fn (.func 88) #[], args := #[.pointer (some ⟨ps, 0, none⟩), .pointer (some ⟨w.heap.size, 0, none⟩)] }] } ∧
    R = some (kv, cs) ∧ Po w.heap.size b m cb false kv cs W ∧ Below w.heap.size w W ∧ W.heap[w.heap.size]? = some (.cells #[.nilIface] 90 (0, 0))
theorem cell_row (W : World) (E : List Nat) (T : TypeId) (j k : Nat) (h : E[j]? = some k) : (W.alloc (.cells (E.map fun k => Value.int .i64 (k : Nat)).toArray T)).cell? ⟨W.heap.size, j, none⟩ = some (.int .i64 (k : Nat)) := by
  rw [World.cell?_alloc_new]
  simp [h]
set_option maxHeartbeats 12800000 in
set_option maxRecDepth 100000 in
theorem parse_any (s : List UInt8) (w : World) (hT : Tabs w) (hs : s.length ≤ 50000) :
    Calls Tryz.prog 76 #[.string (txt s)] w (ParseP w s) := by
  obtain ⟨i0, hi, hz0, hz1, hz2⟩ := info_parts Tryz.infoStr
  have CL := Lib.hid (lex_any s (w.alloc (.cells #[.nilIface] 90)) (hT.below ((Below.refl _ w).alloc (Nat.le_refl _) _)) hs)
  clear hT
  go_enter_defers Tryz.func76, Tryz.ntmps76
  go_wp2_with fail
  refine wp_scope_jumps 0 (ParJ w (parseM (lexT s) [] [] [])) (fun _ _ => 0) rfl ?_ ?_
  · go_wp2_with fail
    refine CL.out.mono ?_
    rintro e w1 ⟨lb, rest, wd, acc, its, rfl, h1, h2, h3⟩
    have hb1 := h1.below0
    have hlt1 := h1.lt
    have hend := lexT_end s
    rw [← h2] at hend
    obtain ⟨gi, hq⟩ := lq_of_lx h1 (by rintro rfl; simp [endB] at hend)
    have hq1 := hq.mono (B2 := w.heap.size) (by simp)
    have HE1 : Hid (w1.heap[w.heap.size]? = some (.cells #[.nilIface] 90 (0, 0))) := (hb1.block _ (by simp)).trans (al_new _ _ _ rfl)
    have HB1 : Hid (Below w.heap.size w w1) := ((Below.refl _ w).alloc (Nat.le_refl _) _).trans (hb1.mono (by simp))
    have HQ1 := Lib.hid hq1
    have HI : Hid (parseM (lexT s) [] [] [] = parseM (its.map liOf) [] [] []) := by show _ = _; rw [h2]
    obtain ⟨R, hR⟩ : ∃ R, parseM (lexT s) [] [] [] = R := ⟨_, rfl⟩
    rw [hR] at HI ⊢
    have HRR := Lib.hid hR
    have HEND := Lib.hid hend
    have hs1 := hb1.size
    simp only [World.size_alloc] at hs1
    clear h1 h2 hb1 hend hq hq1 CL hR
    go_wp2_with fail
    refine (newProps3 _).mono ?_
    rintro e w2 ⟨rfl, k0, k1, k2, k3, hb2, hsz2⟩
    simp only [World.size_alloc] at k0 k1 k2 k3 hsz2 hb2 ⊢
    have hbl1 := HQ1.out.lt
    have hw1s : ∀ r, r < w1.heap.size → w2.heap[r]? = w1.heap[r]? := fun r hr => (hb2.block r (by omega)).trans (al_old _ _ _ hr)
    have hpar : w2.heap[w1.heap.size]? = some (.cells #[.pointer (some ⟨lb, 0, none⟩)] 151 (0, 0)) := (hb2.block _ (by omega)).trans (al_new _ _ _ rfl)
    have HB2 : Hid (Below w.heap.size w w2) := (HB1.out.alloc (by omega) _).trans (hb2.mono (by omega))
    have HPS : Hid (PS w.heap.size w.heap.size w1.heap.size lb gi (w1.heap.size + 1 + 3) (w1.heap.size + 1) (w1.heap.size + 1 + 1) (.slice (some ⟨w1.heap.size + 1 + 2, 0, none⟩) 0 0) (.slice (some ⟨w2.heap.size, 0, none⟩) 0 0) its (([] : KV2).map Prod.fst) [] [] [] (w2.alloc (.cells #[] 9))) := by
      have al : ∀ {r : Nat} {o : Obj}, w2.heap[r]? = some o → (w2.alloc (.cells #[] 9)).heap[r]? = some o := fun hr => (al_old _ _ _ (lt_of_some hr)).trans hr
      exact { lex := HQ1.out.keep ((al_old _ _ _ (by omega)).trans (hw1s _ hbl1.1)) ((al_old _ _ _ (by omega)).trans (hw1s _ hbl1.2.1)),
              err := al ((hw1s _ (by omega)).trans HE1.out), par := al hpar, obj := al k3, mm := mb_new (al k0), mn := by simp, cc := ⟨[], rfl, mb_new (al k1), fun x hx => by cases hx⟩, cn := by simp,
              keys := ⟨rfl, .inr ⟨w1.heap.size + 1 + 2, 0, #[], rfl, by omega, al k2, Nat.le_refl _, by unfold maxLen; omega, rfl, rfl⟩⟩,
              coms := ⟨rfl, .inr ⟨w2.heap.size, 0, #[], rfl, by omega, al_new _ _ _ rfl, Nat.le_refl _, by unfold maxLen; omega, rfl, rfl⟩⟩,
              apart := fun g hg hv => by simp [Value.ownBlock] at hg hv; omega,
              mc := by omega, base := by omega }
    have hsz2' : w.heap.size ≤ w2.heap.size := by omega
    have HB3 : Hid (Below w.heap.size w (w2.alloc (.cells #[] 9))) := HB2.out.alloc hsz2' _
    clear k0 k1 k2 k3 hb2 hsz2 hbl1 hw1s hpar HB2 HB1 HE1 HQ1
    generalize w1.heap.size + 1 + 3 = pb at *
    generalize w1.heap.size + 1 + 1 = cb at *
    generalize w1.heap.size + 1 + 2 = kb at *
    generalize w1.heap.size + 1 = mb at *
    generalize w1.heap.size = ps at *
    go_wp2
    generalize w2.alloc (.cells #[] 9) = w3 at *
    go_loopg [5, 6] (its.length + 1) (fun gk v5 v6 wr => ∃ (its2 : List LI) (kv : KV2) (cs : CS2) (co : List (List UInt8)) (k : List UInt8) (vk : Value) (ao : Option Addr) (cap : Nat), v5 = .string (txt k) ∧ v6 = .slice ao co.length cap ∧ its2.length < gk ∧ its2.length + co.length ≤ 600000 ∧ its2.length + kv.length ≤ 600000 ∧ Hid (PS w.heap.size w.heap.size ps lb gi pb mb cb vk (.slice ao co.length cap) its2 (kv.map Prod.fst) kv cs co wr) ∧ Hid (R = parseM (its2.map liOf) kv cs co) ∧ Hid (endB (its2.map liOf) = true) ∧ Hid (Below w.heap.size w wr))
    case atStart => exact ⟨its, [], [], [], [], _, _, _, rfl, rfl, by omega, by simp; omega, by simp; omega, HPS.out, HI.out, HEND.out, HB3.out⟩
    case round =>
      obtain ⟨its2, kv, cs, co, k, vk, ao, cap, rfl, rfl, hg, hl1, hl2, HP, HR, HE, HB⟩ := hrel
      have hbs := HB.out.size
      cases its2 with
      | nil => exact absurd HE.out (by simp [endB])
      | cons i its3 =>
      obtain ⟨gk, rfl⟩ : ∃ m, gk = m + 1 := ⟨gk - 1, by omega⟩
      obtain ⟨ik, ip, iv⟩ := i
      rw [List.length_cons] at hg hl1 hl2
      clear HPS HI HEND HB3
      have hlx := HP.out.lex.lt
      have HP0 := Lib.hid (HP.out.below ((Below.refl _ wr).alloc (Nat.le_refl _) (.cells #[.int .i64 4, .int .i64 2, .int .i64 1] 136)))
      have CX : Hid (Calls Tryz.prog 89 #[.pointer (some ⟨ps, 0, none⟩), .slice (some ⟨wr.heap.size, 0, none⟩) 3 3] (wr.alloc (.cells #[.int .i64 4, .int .i64 2, .int .i64 1] 136)) fun e w' =>
          Lq w.heap.size lb gi its3 w' ∧ Below w.heap.size (wr.alloc (.cells #[.int .i64 4, .int .i64 2, .int .i64 1] 136)) w' ∧ (∀ r, r < (wr.alloc (.cells #[.int .i64 4, .int .i64 2, .int .i64 1] 136)).heap.size → r ≠ lb → w'.heap[r]? = (wr.alloc (.cells #[.int .i64 4, .int .i64 2, .int .i64 1] 136)).heap[r]?) ∧
          (if ik ∈ [4, 2, 1] then e = .returned (.agg #[.int .i64 ik, .int .i64 ip, .string (txt iv)]) else PanE e)) :=
        expect_any w.heap.size lb gi ps wr.heap.size [4, 2, 1] ⟨ik, ip, iv⟩ its3 _ HP0.out.lex (by simp; omega) (by omega) (by simp [World.cell?, HP0.out.par]) (by omega) (fun j k hj => cell_row wr [4, 2, 1] _ j k hj) (by decide)
      have HBA := Lib.hid (HB.out.alloc hbs (.cells #[.int .i64 4, .int .i64 2, .int .i64 1] 136))
      clear hlx
      by_cases h4 : ik = 4
      · subst h4
        go_wp2_with fail
        refine CX.out.mono ?_
        rintro e w4 ⟨hl4, hb4, hk4, he⟩
        rw [if_pos (by decide)] at he
        subst he
        have hs4 := (HBA.out.trans hb4).size
        have HP4 := Lib.hid ((HP0.out.all hl4 hk4).below ((Below.refl _ w4).alloc (Nat.le_refl _) (.cells #[.int .i64 4, .int .i64 ip, .string (txt iv)] 138)))
        have HB4 := Lib.hid ((HBA.out.trans hb4).alloc hs4 (.cells #[.int .i64 4, .int .i64 ip, .string (txt iv)] 138))

        clear hl4 hb4 hk4 CX HP0 HP HBA HB
        go_wp2_with (at_builtin; refine wpList_app1m rfl _ _ 34 9 rfl i0 (.string ⟨#[]⟩) 16 Tryz.underlying34 hi hz0 hz1 hz2 rfl w.heap.size _ co.length _ rfl HP4.out.coms (.string (txt iv)) rfl _ rfl (by simp) (by omega) (by omega) (by simp; omega) ?_)
        intro ao2 cap2 w5 hown5 hb5 hk5 ha5 hs5
        have HP5 := Lib.hid (HP4.out.com iv hown5 (fun r hr => hk5 r (by simpa using hr)) (fun r hr => ha5 r (by simpa using hr)))
        have HB5 := Lib.hid (HB4.out.trans hb5)
        have hlen : (co ++ [iv]).length = co.length + 1 := by simp
        have HLEN := Lib.hid hlen
        have HR5 : Hid (R = parseM (its3.map liOf) kv cs (co ++ [iv])) := HR.out.trans (parse_cmt iv _ kv cs co)
        have HE5 : Hid (endB (its3.map liOf) = true) := by
          have := HE.out
          rw [List.map_cons, show liOf ⟨4, ip, iv⟩ = (4, iv) from rfl, endB_cons (by omega)] at this
          exact this
        clear hown5 hb5 hk5 ha5 hlen HP4 HB4 HR HE
        go_wp2
        go_roundg gk
        case rel => exact ⟨its3, kv, cs, co ++ [iv], k, vk, ao2, cap2, rfl, by rw [HLEN.out], by omega, by rw [HLEN.out]; omega, by omega, by rw [HLEN.out]; exact HP5.out, HR5.out, HE5.out, HB5.out⟩
        case measure => omega
      · by_cases h1 : ik = 1
        · subst h1
          go_wp2_with fail
          refine CX.out.mono ?_
          rintro e w4 ⟨hl4, hb4, hk4, he⟩
          rw [if_pos (by decide)] at he
          subst he
          have hs4 := (HBA.out.trans hb4).size
          have HP4 := Lib.hid ((HP0.out.all hl4 hk4).below ((Below.refl _ w4).alloc (Nat.le_refl _) (.cells #[.int .i64 1, .int .i64 ip, .string (txt iv)] 138)))
          have HB4 := Lib.hid ((HBA.out.trans hb4).alloc hs4 (.cells #[.int .i64 1, .int .i64 ip, .string (txt iv)] 138))
          have HF : Hid (parseM (lexT s) [] [] [] = some (kv, cs)) := HRR.out.trans (HR.out.trans (parse_eof iv _ kv cs co))
          clear hl4 hb4 hk4 CX HP0 HP HBA HB
          go_wp2
          go_step3
          exact ⟨rfl, kv, cs, pb, mb, cb, ps, _, _, _, _, _, _, _, _, _, _, _, _, _, _, _, _, _, _, _, _, _, _, _, _, _, _, _, _, _, _, _, _, _, _, _, _, _, _, _, _, _, _, _, _, _, _, _, _, _, _, _, _, _, _, _, _, _, _, _, _, _, _, _, _, _, _, _, _, _, _, _, _, _, _, _, _, _, _, _, _, _, _, _, _, _, _, rfl, HF.out, HP4.out.po rfl, HB4.out, HP4.out.err⟩
        · by_cases h2 : ik = 2
          · subst h2
            go_wp2_with fail
            refine CX.out.mono ?_
            rintro e w4 ⟨hl4, hb4, hk4, he⟩
            rw [if_pos (by decide)] at he
            subst he
            have hs4 := (HBA.out.trans hb4).size
            have hP4 := HP0.out.all hl4 hk4
            have hlt4 := hP4.lex.lt
            have HXG : Hid (w4.heap.size ≠ gi) := by show _ ≠ _; omega
            have HP4 := Lib.hid (hP4.below ((Below.refl _ w4).alloc (Nat.le_refl _) (.cells #[.int .i64 2, .int .i64 ip, .string (txt iv)] 138)))
            have HB4 := Lib.hid ((HBA.out.trans hb4).alloc hs4 (.cells #[.int .i64 2, .int .i64 ip, .string (txt iv)] 138))
            have HX4 : Hid ((w4.alloc (.cells #[.int .i64 2, .int .i64 ip, .string (txt iv)] 138)).heap[w4.heap.size]? = some (.cells #[.int .i64 2, .int .i64 ip, .string (txt iv)] 138 (0, 0))) := al_new _ _ _ rfl
            have hpl4 := lt_of_some hP4.obj
            have d3 : w4.cell? ⟨pb, 3, none⟩ = some (.map (some mb)) := by simp [World.cell?, hP4.obj]
            have d5 : w4.cell? ⟨pb, 5, none⟩ = some vk := by simp [World.cell?, hP4.obj]
            have HE3 : Hid (endB (its3.map liOf) = true) := by
              have := HE.out
              rw [List.map_cons, show liOf ⟨2, ip, iv⟩ = (2, iv) from rfl, endB_cons (by omega)] at this
              exact this
            obtain ⟨z, hlk⟩ := HP4.out.look iv
            have HKV : Hid ((kv.map Prod.fst).length ≤ 600000) := by show _ ≤ _; rw [List.length_map]; omega
            cases its3 with
            | nil => exact absurd HE3.out (by simp [endB])
            | cons i2 its4 =>
            obtain ⟨jk, jp, jv⟩ := i2
            rw [List.length_cons] at hg hl1 hl2
            clear hl4 hb4 hk4 CX HP0 HP HBA HB hP4 HE
            have HALL : ∀ (W5 : World) (vk5 : Value) (ks5 : List (List UInt8)), True := fun _ _ _ => trivial
            clear HALL
            by_cases hin : iv ∈ kv.map Prod.fst
            · rw [decide_eq_true hin] at hlk
              have HKS : Hid (∀ v, kv.map Prod.fst = (updA kv (iv, v)).map Prod.fst) := fun v => by rw [updA_fst, if_pos hin]
              clear hin
              go_upto_region 16 with fail
              clear hlk d3 d5 hpl4
              generalize w4.alloc _ = W5 at *
              have HP5 := HP4
              have HB5 := HB4
              have HX5 := HX4
              clear HP4 HB4 HX4
              have hs5' := HB5.out.size
              have HL5 := Lib.hid HP5.out.lex.lt
              have HPA := Lib.hid (HP5.out.below ((Below.refl _ W5).alloc (Nat.le_refl _) (.cells #[.int .i64 3, .int .i64 1] 136)))
              have CY : Hid (Calls Tryz.prog 89 #[.pointer (some ⟨ps, 0, none⟩), .slice (some ⟨W5.heap.size, 0, none⟩) 2 2] (W5.alloc (.cells #[.int .i64 3, .int .i64 1] 136)) fun e w' =>
                  Lq w.heap.size lb gi its4 w' ∧ Below w.heap.size (W5.alloc (.cells #[.int .i64 3, .int .i64 1] 136)) w' ∧ (∀ r, r < (W5.alloc (.cells #[.int .i64 3, .int .i64 1] 136)).heap.size → r ≠ lb → w'.heap[r]? = (W5.alloc (.cells #[.int .i64 3, .int .i64 1] 136)).heap[r]?) ∧
                  (if jk ∈ [3, 1] then e = .returned (.agg #[.int .i64 jk, .int .i64 jp, .string (txt jv)]) else PanE e)) :=
                expect_any w.heap.size lb gi ps W5.heap.size [3, 1] ⟨jk, jp, jv⟩ its4 _ HPA.out.lex (by simp; omega) (by omega) (by simp [World.cell?, HPA.out.par]) (by have := HL5.out; omega) (fun j k hj => cell_row W5 [3, 1] _ j k hj) (by decide)
              have HBA := Lib.hid (HB5.out.alloc hs5' (.cells #[.int .i64 3, .int .i64 1] 136))
              have HXA : Hid ((W5.alloc (.cells #[.int .i64 3, .int .i64 1] 136)).heap[w4.heap.size]? = some (.cells #[.int .i64 2, .int .i64 ip, .string (txt iv)] 138 (0, 0))) := (al_old _ _ _ (lt_of_some HX5.out)).trans HX5.out
              clear HL5 HP5 HB5 HX5
              go_wp2_with fail
              refine CY.out.mono ?_
              rintro e w6 ⟨hl6, hb6, hk6, he6⟩
              have HP6 := Lib.hid (HPA.out.all hl6 hk6)
              have HB6 := Lib.hid (HBA.out.trans hb6)
              have hs6 := HB6.out.size
              have HX6 : Hid (w6.heap[w4.heap.size]? = some (.cells #[.int .i64 2, .int .i64 ip, .string (txt iv)] 138 (0, 0))) := by
                show _ = _
                obtain ⟨xl, hxl⟩ := HPA.out.lex.cells.1
                rw [hk6 _ (lt_of_some HXA.out) (ne_of_types HXA.out hxl (by decide))]
                exact HXA.out
              have x0 : w6.cell? ⟨w4.heap.size, 0, none⟩ = some (.int .i64 2) := by simp [World.cell?, HX6.out]
              have x1 : w6.cell? ⟨w4.heap.size, 1, none⟩ = some (.int .i64 ip) := by simp [World.cell?, HX6.out]
              have x2 : w6.cell? ⟨w4.heap.size, 2, none⟩ = some (.string (txt iv)) := by simp [World.cell?, HX6.out]
              have y0 : w6.frozen? ⟨w4.heap.size, 0, none⟩ = false := by simp [World.frozen?, HX6.out]
              have y1 : w6.frozen? ⟨w4.heap.size, 1, none⟩ = false := by simp [World.frozen?, HX6.out]
              have y2 : w6.frozen? ⟨w4.heap.size, 2, none⟩ = false := by simp [World.frozen?, HX6.out]
              clear CY HPA HBA HXA hl6 hb6 hk6
              by_cases hj : jk = 3 ∨ jk = 1
              · have hin2 : jk ∈ [3, 1] := by simpa using hj
                rw [if_pos hin2] at he6
                subst he6
                clear hin2
                have HRJ := HR
                clear HR
                go_upto_region 17 with fail
                obtain ⟨W7, hW7⟩ : ∃ W7, ((w6.setCell ⟨w4.heap.size, 0, none⟩ (.int .i64 jk)).setCell ⟨w4.heap.size, 1, none⟩ (.int .i64 jp)).setCell ⟨w4.heap.size, 2, none⟩ (.string (txt jv)) = W7 := ⟨_, rfl⟩
                rw [hW7]
                have hk7 : ∀ r, r ≠ w4.heap.size → W7.heap[r]? = w6.heap[r]? := by
                  intro r hr
                  rw [← hW7, Below.heap_setCell _ _ _ _ (by exact hr), Below.heap_setCell _ _ _ _ (by exact hr), Below.heap_setCell _ _ _ _ (by exact hr)]
                have hX7 : W7.heap[w4.heap.size]? = some (.cells #[.int .i64 jk, .int .i64 jp, .string (txt jv)] 138 (0, 0)) := by
                  rw [← hW7]; simp [World.setCell, Array.getElem?_modify, HX6.out]
                have HP7 := Lib.hid (HP6.out.far HX6.out HXG.out hk7)
                have HB7 : Hid (Below w.heap.size w W7) := by
                  have h2 := ((HB6.out.setCell (p := ⟨w4.heap.size, 0, none⟩) hs4 (.int .i64 jk)).setCell (p := ⟨w4.heap.size, 1, none⟩) hs4 (.int .i64 jp)).setCell (p := ⟨w4.heap.size, 2, none⟩) hs4 (.string (txt jv))
                  rw [← hW7]; exact h2
                have hs7 := HB7.out.size
                have HO7 := Lib.hid HP7.out.obj
                have HX7 := Lib.hid hX7
                clear hW7 hk7 x0 x1 x2 y0 y1 y2 HP6 HB6 HX6 hX7
                by_cases hco : co = []
                · subst hco
                  have HPC : Hid (∀ k, putC cs k [] = cs) := fun k => by unfold putC; rw [if_pos rfl]
                  rw [List.length_nil] at *
                  have d3 : W7.cell? ⟨pb, 3, none⟩ = some (.map (some mb)) := by simp [World.cell?, HO7.out]
                  have x0 : W7.cell? ⟨w4.heap.size, 0, none⟩ = some (.int .i64 jk) := by simp [World.cell?, HX7.out]
                  have x2 : W7.cell? ⟨w4.heap.size, 2, none⟩ = some (.string (txt jv)) := by simp [World.cell?, HX7.out]
                  rcases hj with rfl | rfl
                  · obtain ⟨W8, hmu, hP8, hb8, hs8, _⟩ := (HP7.out.below (Below.refl _ W7).drew).putM iv jv
                    have HP8 := Lib.hid hP8
                    have HB8 := Lib.hid (HB7.out.drew.trans hb8)
                    clear hP8 hb8 hs8
                    have HR8 : Hid (R = parseM (its4.map liOf) (updA kv (iv, jv)) cs []) := HRJ.out.trans ((parse_kv iv jv _ kv cs []).trans (by rw [HPC.out]))
                    have HE8 : Hid (endB (its4.map liOf) = true) := by
                      have := HE3.out
                      rw [List.map_cons, show liOf ⟨3, jp, jv⟩ = (3, jv) from rfl, endB_cons (by omega)] at this
                      exact this
                    have hkl := updA_len kv (iv, jv)
                    have HPF : Hid (PS w.heap.size w.heap.size ps lb gi pb mb cb vk (.slice ao 0 cap) its4 ((updA kv (iv, jv)).map Prod.fst) (updA kv (iv, jv)) cs [] W8) := by
                      show PS _ _ _ _ _ _ _ _ _ _ _ _ _ _ _ _
                      rw [← HKS.out jv]; exact HP8.out
                    go_wp2
                    go_region
                    all_goals
                      go_wp2
                      go_roundg gk
                      case rel => exact ⟨its4, updA kv (iv, jv), cs, [], iv, _, _, _, rfl, rfl, by omega, by rw [List.length_nil]; omega, by omega, HPF.out, HR8.out, HE8.out, HB8.out⟩
                      case measure => omega
                  · obtain ⟨W8, hmu, hP8, hb8, hs8, _⟩ := HP7.out.putM iv []
                    have hmu : (Instr.mapUpdate 60 (.map (some mb)) (.string (txt iv)) (.string ⟨#[]⟩)).run Tryz.prog W7 = .ok () W8 := hmu
                    have HP8 := Lib.hid hP8
                    have HB8 := Lib.hid (HB7.out.trans hb8)
                    clear hP8 hb8 hs8
                    have HF : Hid (parseM (lexT s) [] [] [] = some (updA kv (iv, []), cs)) := HRR.out.trans (HRJ.out.trans ((parse_ke iv jv _ kv cs []).trans (by rw [HPC.out])))
                    go_wp2
                    go_step3
                    exact ⟨rfl, _, _, pb, mb, cb, ps, _, _, _, _, _, _, _, _, _, _, _, _, _, _, _, _, _, _, _, _, _, _, _, _, _, _, _, _, _, _, _, _, _, _, _, _, _, _, _, _, _, _, _, _, _, _, _, _, _, _, _, _, _, _, _, _, _, _, _, _, _, _, _, _, _, _, _, _, _, _, _, _, _, _, _, _, _, _, _, _, _, _, _, _, _, _, rfl, HF.out, HP8.out.po (HKS.out []), HB8.out, HP8.out.err⟩
                · have hpos : 0 < co.length := List.length_pos_iff.2 hco
                  have HPC : Hid (∀ k, putC cs k co = updA cs (k, co)) := fun k => by unfold putC; rw [if_neg hco]
                  obtain ⟨W8, hmuC, hP8, hb8, hs8, hk8⟩ := HP7.out.putC hs7 hco iv
                  obtain ⟨ecb, ccb, hcb⟩ := (show ∃ es c, W7.heap[cb]? = some (.map es c) by
                    obtain ⟨cw, _, hc2, _⟩ := HP7.out.cc
                    exact hc2.cells)
                  have hO8 := (hk8 _ (ne_of_map HO7.out hcb)).trans HO7.out
                  have hX8 := (hk8 _ (ne_of_map HX7.out hcb)).trans HX7.out
                  have hpl8 := lt_of_some hO8
                  have hxl8 := lt_of_some hX8
                  have d4 : W7.cell? ⟨pb, 4, none⟩ = some (.map (some cb)) := by simp [World.cell?, HO7.out]
                  have d3 : W8.cell? ⟨pb, 3, none⟩ = some (.map (some mb)) := by simp [World.cell?, hO8]
                  have x0 : W8.cell? ⟨w4.heap.size, 0, none⟩ = some (.int .i64 jk) := by simp [World.cell?, hX8]
                  have x2 : W8.cell? ⟨w4.heap.size, 2, none⟩ = some (.string (txt jv)) := by simp [World.cell?, hX8]
                  have hB8 := HB7.out.trans hb8
                  have HB9 := Lib.hid (hB8.alloc hB8.size (.cells #[] 9))
                  have HP9 := Lib.hid hP8
                  have hs88 : w.heap.size ≤ W8.heap.size := hB8.size
                  have hpne8 : pb ≠ W8.heap.size := by omega
                  have hxne8 : w4.heap.size ≠ W8.heap.size := by omega
                  clear hco hP8 hb8 hk8 hcb hO8 hX8 hB8 hs8
                  rcases hj with rfl | rfl
                  · obtain ⟨W10, hmu, hP10, hb10, hs10, _⟩ := (HP9.out.below (Below.refl _ (W8.alloc (.cells #[] 9))).drew).putM iv jv
                    have HP10 := Lib.hid hP10
                    have HB10 := Lib.hid (HB9.out.drew.trans hb10)
                    clear hP10 hb10 hs10
                    have HR8 : Hid (R = parseM (its4.map liOf) (updA kv (iv, jv)) (updA cs (iv, co)) []) := HRJ.out.trans ((parse_kv iv jv _ kv cs co).trans (by rw [HPC.out]))
                    have HE8 : Hid (endB (its4.map liOf) = true) := by
                      have := HE3.out
                      rw [List.map_cons, show liOf ⟨3, jp, jv⟩ = (3, jv) from rfl, endB_cons (by omega)] at this
                      exact this
                    have hkl := updA_len kv (iv, jv)
                    have HPF : Hid (PS w.heap.size w.heap.size ps lb gi pb mb cb vk (.slice (some ⟨W8.heap.size, 0, none⟩) 0 0) its4 ((updA kv (iv, jv)).map Prod.fst) (updA kv (iv, jv)) (updA cs (iv, co)) [] W10) := by
                      show PS _ _ _ _ _ _ _ _ _ _ _ _ _ _ _ _
                      rw [← HKS.out jv]; exact HP10.out
                    go_wp2
                    go_region
                    all_goals
                      go_wp2
                      go_roundg gk
                      case rel => exact ⟨its4, updA kv (iv, jv), (updA cs (iv, co)), [], iv, _, _, _, rfl, rfl, by omega, by rw [List.length_nil]; omega, by omega, HPF.out, HR8.out, HE8.out, HB10.out⟩
                      case measure => omega
                  · obtain ⟨W10, hmu, hP10, hb10, hs10, _⟩ := HP9.out.putM iv []
                    have hmu : (Instr.mapUpdate 60 (.map (some mb)) (.string (txt iv)) (.string ⟨#[]⟩)).run Tryz.prog (W8.alloc (.cells #[] 9)) = .ok () W10 := hmu
                    have HP10 := Lib.hid hP10
                    have HB10 := Lib.hid (HB9.out.trans hb10)
                    clear hP10 hb10 hs10
                    have HF : Hid (parseM (lexT s) [] [] [] = some (updA kv (iv, []), updA cs (iv, co))) := HRR.out.trans (HRJ.out.trans ((parse_ke iv jv _ kv cs co).trans (by rw [HPC.out])))
                    go_wp2
                    go_step3
                    exact ⟨rfl, _, _, pb, mb, cb, ps, _, _, _, _, _, _, _, _, _, _, _, _, _, _, _, _, _, _, _, _, _, _, _, _, _, _, _, _, _, _, _, _, _, _, _, _, _, _, _, _, _, _, _, _, _, _, _, _, _, _, _, _, _, _, _, _, _, _, _, _, _, _, _, _, _, _, _, _, _, _, _, _, _, _, _, _, _, _, _, _, _, _, _, _, _, _, rfl, HF.out, HP10.out.po (HKS.out []), HB10.out, HP10.out.err⟩
              · rw [if_neg (by simpa using hj)] at he6
                obtain ⟨a, rfl⟩ := he6
                have HF : Hid (parseM (lexT s) [] [] [] = none) := HRR.out.trans (HR.out.trans (parse_kx iv _ jk _ kv cs co (fun e => hj (.inr e)) (fun e => hj (.inl e))))
                clear x0 x1 x2 y0 y1 y2 HX6
                have c0 : w6.cell? ⟨w.heap.size, 0, none⟩ = some .nilIface := by simp [World.cell?, HP6.out.err]
                have f0 : w6.frozen? ⟨w.heap.size, 0, none⟩ = false := by simp [World.frozen?, HP6.out.err]
                go_wp2
                simp only [Exit.jump]
                go_wp2
                refine leaves_cons (f := 88) (args := #[.pointer (some ⟨ps, 0, none⟩), .pointer (some ⟨w.heap.size, 0, none⟩)]) (by simp) (by simp [go_sem]) ?_
                refine (rec_caught ⟨ps, 0, none⟩ ⟨w.heap.size, 0, none⟩ a .nilIface [] w6 c0 f0).mono ?_
                rintro e u' w'' ⟨rfl, rfl, rfl⟩
                have d0 := World.cell?_setCell_same w6 ⟨w.heap.size, 0, none⟩ (.iface 161 (.pointer (some ⟨a, 0, none⟩))) c0
                have HB7 := Lib.hid (HB6.out.setCell (p := ⟨w.heap.size, 0, none⟩) (Nat.le_refl _) (.iface 161 (.pointer (some ⟨a, 0, none⟩))))
                simp [Leaves, settle, results, Tryz.results76, go_sem, d0]
                exact ⟨HB7.out, .inl ⟨HF.out, _, _, rfl⟩⟩
            · rw [decide_eq_false hin] at hlk
              have HKS : Hid (∀ v, kv.map Prod.fst ++ [iv] = (updA kv (iv, v)).map Prod.fst) := fun v => by rw [updA_fst, if_neg hin]
              clear hin
              have HKEYS : Hid ((w4.alloc (.cells #[.int .i64 2, .int .i64 ip, .string (txt iv)] 138)).ownsRow w.heap.size 9 1 vk kv.length (strsV (kv.map Prod.fst))) := by
                have := HP4.out.keys
                rw [List.length_map] at this
                exact this
              go_wp2_with (at_builtin; refine wpList_app1m rfl _ _ 34 9 rfl i0 (.string ⟨#[]⟩) 16 Tryz.underlying34 hi hz0 hz1 hz2 rfl w.heap.size _ kv.length _ rfl HKEYS.out (.string (txt iv)) rfl _ rfl (by simp) (by omega) (by omega) (by simp; omega) ?_)
              intro ao2 cap2 w5 hown5 hb5 hk5 ha5 hs5
              have HP5 := Lib.hid (HP4.out.key iv (by rw [List.length_map]; exact hown5) (fun r hr => hk5 r (by simpa using hr)) (fun r hr => ha5 r (by simpa using hr)))
              have HO5 : w5.heap[pb]? = _ := (hk5 pb (by have := lt_of_some HP4.out.obj; simpa using this) (own_ne_cells HP4.out.keys HP4.out.obj (by decide))).trans HP4.out.obj
              have e5 : w5.cell? ⟨pb, 5, none⟩ = some vk := by simp [World.cell?, HO5]
              have f5 : w5.frozen? ⟨pb, 5, none⟩ = false := by simp [World.frozen?, HO5]
              have HB5 := Lib.hid ((HB4.out.trans hb5).setCell (p := ⟨pb, 5, none⟩) HP4.out.base.2.2.1 (.slice ao2 (kv.length + 1) cap2))
              have HX5 : Hid ((w5.setCell ⟨pb, 5, none⟩ (.slice ao2 (kv.length + 1) cap2)).heap[w4.heap.size]? = some (.cells #[.int .i64 2, .int .i64 ip, .string (txt iv)] 138 (0, 0))) := by
                show _ = _
                rw [Below.heap_setCell _ _ _ _ (by exact ne_of_types HX4.out HP4.out.obj (by decide)), hk5 _ (by simp) (own_ne_cells HP4.out.keys HX4.out (by decide))]
                exact HX4.out
              clear hown5 hb5 hk5 ha5 HO5 HP4 HB4 HX4 hlk d3 d5 HKEYS
              go_upto_region 16 with fail
              clear e5 f5
              generalize w5.setCell ⟨pb, 5, none⟩ _ = W5 at *
              have hs5' := HB5.out.size
              have HL5 := Lib.hid HP5.out.lex.lt
              have HPA := Lib.hid (HP5.out.below ((Below.refl _ W5).alloc (Nat.le_refl _) (.cells #[.int .i64 3, .int .i64 1] 136)))
              have CY : Hid (Calls Tryz.prog 89 #[.pointer (some ⟨ps, 0, none⟩), .slice (some ⟨W5.heap.size, 0, none⟩) 2 2] (W5.alloc (.cells #[.int .i64 3, .int .i64 1] 136)) fun e w' =>
                  Lq w.heap.size lb gi its4 w' ∧ Below w.heap.size (W5.alloc (.cells #[.int .i64 3, .int .i64 1] 136)) w' ∧ (∀ r, r < (W5.alloc (.cells #[.int .i64 3, .int .i64 1] 136)).heap.size → r ≠ lb → w'.heap[r]? = (W5.alloc (.cells #[.int .i64 3, .int .i64 1] 136)).heap[r]?) ∧
                  (if jk ∈ [3, 1] then e = .returned (.agg #[.int .i64 jk, .int .i64 jp, .string (txt jv)]) else PanE e)) :=
                expect_any w.heap.size lb gi ps W5.heap.size [3, 1] ⟨jk, jp, jv⟩ its4 _ HPA.out.lex (by simp; omega) (by omega) (by simp [World.cell?, HPA.out.par]) (by have := HL5.out; omega) (fun j k hj => cell_row W5 [3, 1] _ j k hj) (by decide)
              have HBA := Lib.hid (HB5.out.alloc hs5' (.cells #[.int .i64 3, .int .i64 1] 136))
              have HXA : Hid ((W5.alloc (.cells #[.int .i64 3, .int .i64 1] 136)).heap[w4.heap.size]? = some (.cells #[.int .i64 2, .int .i64 ip, .string (txt iv)] 138 (0, 0))) := (al_old _ _ _ (lt_of_some HX5.out)).trans HX5.out
              clear HL5 HP5 HB5 HX5
              go_wp2_with fail
              refine CY.out.mono ?_
              rintro e w6 ⟨hl6, hb6, hk6, he6⟩
              have HP6 := Lib.hid (HPA.out.all hl6 hk6)
              have HB6 := Lib.hid (HBA.out.trans hb6)
              have hs6 := HB6.out.size
              have HX6 : Hid (w6.heap[w4.heap.size]? = some (.cells #[.int .i64 2, .int .i64 ip, .string (txt iv)] 138 (0, 0))) := by
                show _ = _
                obtain ⟨xl, hxl⟩ := HPA.out.lex.cells.1
                rw [hk6 _ (lt_of_some HXA.out) (ne_of_types HXA.out hxl (by decide))]
                exact HXA.out
              have x0 : w6.cell? ⟨w4.heap.size, 0, none⟩ = some (.int .i64 2) := by simp [World.cell?, HX6.out]
              have x1 : w6.cell? ⟨w4.heap.size, 1, none⟩ = some (.int .i64 ip) := by simp [World.cell?, HX6.out]
              have x2 : w6.cell? ⟨w4.heap.size, 2, none⟩ = some (.string (txt iv)) := by simp [World.cell?, HX6.out]
              have y0 : w6.frozen? ⟨w4.heap.size, 0, none⟩ = false := by simp [World.frozen?, HX6.out]
              have y1 : w6.frozen? ⟨w4.heap.size, 1, none⟩ = false := by simp [World.frozen?, HX6.out]
              have y2 : w6.frozen? ⟨w4.heap.size, 2, none⟩ = false := by simp [World.frozen?, HX6.out]
              clear CY HPA HBA HXA hl6 hb6 hk6
              by_cases hj : jk = 3 ∨ jk = 1
              · have hin2 : jk ∈ [3, 1] := by simpa using hj
                rw [if_pos hin2] at he6
                subst he6
                clear hin2
                have HRJ := HR
                clear HR
                go_upto_region 17 with fail
                obtain ⟨W7, hW7⟩ : ∃ W7, ((w6.setCell ⟨w4.heap.size, 0, none⟩ (.int .i64 jk)).setCell ⟨w4.heap.size, 1, none⟩ (.int .i64 jp)).setCell ⟨w4.heap.size, 2, none⟩ (.string (txt jv)) = W7 := ⟨_, rfl⟩
                rw [hW7]
                have hk7 : ∀ r, r ≠ w4.heap.size → W7.heap[r]? = w6.heap[r]? := by
                  intro r hr
                  rw [← hW7, Below.heap_setCell _ _ _ _ (by exact hr), Below.heap_setCell _ _ _ _ (by exact hr), Below.heap_setCell _ _ _ _ (by exact hr)]
                have hX7 : W7.heap[w4.heap.size]? = some (.cells #[.int .i64 jk, .int .i64 jp, .string (txt jv)] 138 (0, 0)) := by
                  rw [← hW7]; simp [World.setCell, Array.getElem?_modify, HX6.out]
                have HP7 := Lib.hid (HP6.out.far HX6.out HXG.out hk7)
                have HB7 : Hid (Below w.heap.size w W7) := by
                  have h2 := ((HB6.out.setCell (p := ⟨w4.heap.size, 0, none⟩) hs4 (.int .i64 jk)).setCell (p := ⟨w4.heap.size, 1, none⟩) hs4 (.int .i64 jp)).setCell (p := ⟨w4.heap.size, 2, none⟩) hs4 (.string (txt jv))
                  rw [← hW7]; exact h2
                have hs7 := HB7.out.size
                have HO7 := Lib.hid HP7.out.obj
                have HX7 := Lib.hid hX7
                clear hW7 hk7 x0 x1 x2 y0 y1 y2 HP6 HB6 HX6 hX7
                by_cases hco : co = []
                · subst hco
                  have HPC : Hid (∀ k, putC cs k [] = cs) := fun k => by unfold putC; rw [if_pos rfl]
                  rw [List.length_nil] at *
                  have d3 : W7.cell? ⟨pb, 3, none⟩ = some (.map (some mb)) := by simp [World.cell?, HO7.out]
                  have x0 : W7.cell? ⟨w4.heap.size, 0, none⟩ = some (.int .i64 jk) := by simp [World.cell?, HX7.out]
                  have x2 : W7.cell? ⟨w4.heap.size, 2, none⟩ = some (.string (txt jv)) := by simp [World.cell?, HX7.out]
                  rcases hj with rfl | rfl
                  · obtain ⟨W8, hmu, hP8, hb8, hs8, _⟩ := (HP7.out.below (Below.refl _ W7).drew).putM iv jv
                    have HP8 := Lib.hid hP8
                    have HB8 := Lib.hid (HB7.out.drew.trans hb8)
                    clear hP8 hb8 hs8
                    have HR8 : Hid (R = parseM (its4.map liOf) (updA kv (iv, jv)) cs []) := HRJ.out.trans ((parse_kv iv jv _ kv cs []).trans (by rw [HPC.out]))
                    have HE8 : Hid (endB (its4.map liOf) = true) := by
                      have := HE3.out
                      rw [List.map_cons, show liOf ⟨3, jp, jv⟩ = (3, jv) from rfl, endB_cons (by omega)] at this
                      exact this
                    have hkl := updA_len kv (iv, jv)
                    have HPF : Hid (PS w.heap.size w.heap.size ps lb gi pb mb cb (.slice ao2 (kv.length + 1) cap2) (.slice ao 0 cap) its4 ((updA kv (iv, jv)).map Prod.fst) (updA kv (iv, jv)) cs [] W8) := by
                      show PS _ _ _ _ _ _ _ _ _ _ _ _ _ _ _ _
                      rw [← HKS.out jv]; exact HP8.out
                    go_wp2
                    go_region
                    all_goals
                      go_wp2
                      go_roundg gk
                      case rel => exact ⟨its4, updA kv (iv, jv), cs, [], iv, _, _, _, rfl, rfl, by omega, by rw [List.length_nil]; omega, by omega, HPF.out, HR8.out, HE8.out, HB8.out⟩
                      case measure => omega
                  · obtain ⟨W8, hmu, hP8, hb8, hs8, _⟩ := HP7.out.putM iv []
                    have hmu : (Instr.mapUpdate 60 (.map (some mb)) (.string (txt iv)) (.string ⟨#[]⟩)).run Tryz.prog W7 = .ok () W8 := hmu
                    have HP8 := Lib.hid hP8
                    have HB8 := Lib.hid (HB7.out.trans hb8)
                    clear hP8 hb8 hs8
                    have HF : Hid (parseM (lexT s) [] [] [] = some (updA kv (iv, []), cs)) := HRR.out.trans (HRJ.out.trans ((parse_ke iv jv _ kv cs []).trans (by rw [HPC.out])))
                    go_wp2
                    go_step3
                    exact ⟨rfl, _, _, pb, mb, cb, ps, _, _, _, _, _, _, _, _, _, _, _, _, _, _, _, _, _, _, _, _, _, _, _, _, _, _, _, _, _, _, _, _, _, _, _, _, _, _, _, _, _, _, _, _, _, _, _, _, _, _, _, _, _, _, _, _, _, _, _, _, _, _, _, _, _, _, _, _, _, _, _, _, _, _, _, _, _, _, _, _, _, _, _, _, _, _, rfl, HF.out, HP8.out.po (HKS.out []), HB8.out, HP8.out.err⟩
                · have hpos : 0 < co.length := List.length_pos_iff.2 hco
                  have HPC : Hid (∀ k, putC cs k co = updA cs (k, co)) := fun k => by unfold putC; rw [if_neg hco]
                  obtain ⟨W8, hmuC, hP8, hb8, hs8, hk8⟩ := HP7.out.putC hs7 hco iv
                  obtain ⟨ecb, ccb, hcb⟩ := (show ∃ es c, W7.heap[cb]? = some (.map es c) by
                    obtain ⟨cw, _, hc2, _⟩ := HP7.out.cc
                    exact hc2.cells)
                  have hO8 := (hk8 _ (ne_of_map HO7.out hcb)).trans HO7.out
                  have hX8 := (hk8 _ (ne_of_map HX7.out hcb)).trans HX7.out
                  have hpl8 := lt_of_some hO8
                  have hxl8 := lt_of_some hX8
                  have d4 : W7.cell? ⟨pb, 4, none⟩ = some (.map (some cb)) := by simp [World.cell?, HO7.out]
                  have d3 : W8.cell? ⟨pb, 3, none⟩ = some (.map (some mb)) := by simp [World.cell?, hO8]
                  have x0 : W8.cell? ⟨w4.heap.size, 0, none⟩ = some (.int .i64 jk) := by simp [World.cell?, hX8]
                  have x2 : W8.cell? ⟨w4.heap.size, 2, none⟩ = some (.string (txt jv)) := by simp [World.cell?, hX8]
                  have hB8 := HB7.out.trans hb8
                  have HB9 := Lib.hid (hB8.alloc hB8.size (.cells #[] 9))
                  have HP9 := Lib.hid hP8
                  have hs88 : w.heap.size ≤ W8.heap.size := hB8.size
                  have hpne8 : pb ≠ W8.heap.size := by omega
                  have hxne8 : w4.heap.size ≠ W8.heap.size := by omega
                  clear hco hP8 hb8 hk8 hcb hO8 hX8 hB8 hs8
                  rcases hj with rfl | rfl
                  · obtain ⟨W10, hmu, hP10, hb10, hs10, _⟩ := (HP9.out.below (Below.refl _ (W8.alloc (.cells #[] 9))).drew).putM iv jv
                    have HP10 := Lib.hid hP10
                    have HB10 := Lib.hid (HB9.out.drew.trans hb10)
                    clear hP10 hb10 hs10
                    have HR8 : Hid (R = parseM (its4.map liOf) (updA kv (iv, jv)) (updA cs (iv, co)) []) := HRJ.out.trans ((parse_kv iv jv _ kv cs co).trans (by rw [HPC.out]))
                    have HE8 : Hid (endB (its4.map liOf) = true) := by
                      have := HE3.out
                      rw [List.map_cons, show liOf ⟨3, jp, jv⟩ = (3, jv) from rfl, endB_cons (by omega)] at this
                      exact this
                    have hkl := updA_len kv (iv, jv)
                    have HPF : Hid (PS w.heap.size w.heap.size ps lb gi pb mb cb (.slice ao2 (kv.length + 1) cap2) (.slice (some ⟨W8.heap.size, 0, none⟩) 0 0) its4 ((updA kv (iv, jv)).map Prod.fst) (updA kv (iv, jv)) (updA cs (iv, co)) [] W10) := by
                      show PS _ _ _ _ _ _ _ _ _ _ _ _ _ _ _ _
                      rw [← HKS.out jv]; exact HP10.out
                    go_wp2
                    go_region
                    all_goals
                      go_wp2
                      go_roundg gk
                      case rel => exact ⟨its4, updA kv (iv, jv), (updA cs (iv, co)), [], iv, _, _, _, rfl, rfl, by omega, by rw [List.length_nil]; omega, by omega, HPF.out, HR8.out, HE8.out, HB10.out⟩
                      case measure => omega
                  · obtain ⟨W10, hmu, hP10, hb10, hs10, _⟩ := HP9.out.putM iv []
                    have hmu : (Instr.mapUpdate 60 (.map (some mb)) (.string (txt iv)) (.string ⟨#[]⟩)).run Tryz.prog (W8.alloc (.cells #[] 9)) = .ok () W10 := hmu
                    have HP10 := Lib.hid hP10
                    have HB10 := Lib.hid (HB9.out.trans hb10)
                    clear hP10 hb10 hs10
                    have HF : Hid (parseM (lexT s) [] [] [] = some (updA kv (iv, []), updA cs (iv, co))) := HRR.out.trans (HRJ.out.trans ((parse_ke iv jv _ kv cs co).trans (by rw [HPC.out])))
                    go_wp2
                    go_step3
                    exact ⟨rfl, _, _, pb, mb, cb, ps, _, _, _, _, _, _, _, _, _, _, _, _, _, _, _, _, _, _, _, _, _, _, _, _, _, _, _, _, _, _, _, _, _, _, _, _, _, _, _, _, _, _, _, _, _, _, _, _, _, _, _, _, _, _, _, _, _, _, _, _, _, _, _, _, _, _, _, _, _, _, _, _, _, _, _, _, _, _, _, _, _, _, _, _, _, _, rfl, HF.out, HP10.out.po (HKS.out []), HB10.out, HP10.out.err⟩
              · rw [if_neg (by simpa using hj)] at he6
                obtain ⟨a, rfl⟩ := he6
                have HF : Hid (parseM (lexT s) [] [] [] = none) := HRR.out.trans (HR.out.trans (parse_kx iv _ jk _ kv cs co (fun e => hj (.inr e)) (fun e => hj (.inl e))))
                clear x0 x1 x2 y0 y1 y2 HX6
                have c0 : w6.cell? ⟨w.heap.size, 0, none⟩ = some .nilIface := by simp [World.cell?, HP6.out.err]
                have f0 : w6.frozen? ⟨w.heap.size, 0, none⟩ = false := by simp [World.frozen?, HP6.out.err]
                go_wp2
                simp only [Exit.jump]
                go_wp2
                refine leaves_cons (f := 88) (args := #[.pointer (some ⟨ps, 0, none⟩), .pointer (some ⟨w.heap.size, 0, none⟩)]) (by simp) (by simp [go_sem]) ?_
                refine (rec_caught ⟨ps, 0, none⟩ ⟨w.heap.size, 0, none⟩ a .nilIface [] w6 c0 f0).mono ?_
                rintro e u' w'' ⟨rfl, rfl, rfl⟩
                have d0 := World.cell?_setCell_same w6 ⟨w.heap.size, 0, none⟩ (.iface 161 (.pointer (some ⟨a, 0, none⟩))) c0
                have HB7 := Lib.hid (HB6.out.setCell (p := ⟨w.heap.size, 0, none⟩) (Nat.le_refl _) (.iface 161 (.pointer (some ⟨a, 0, none⟩))))
                simp [Leaves, settle, results, Tryz.results76, go_sem, d0]
                exact ⟨HB7.out, .inl ⟨HF.out, _, _, rfl⟩⟩
          · go_wp2_with fail
            refine CX.out.mono ?_
            rintro e w4 ⟨hl4, hb4, hk4, he⟩
            rw [if_neg (by simp; omega)] at he
            obtain ⟨a, rfl⟩ := he
            have HF : Hid (parseM (lexT s) [] [] [] = none) := HRR.out.trans (HR.out.trans (parse_x _ ik _ kv cs co h1 h2 h4))
            have HP4 := Lib.hid (HP0.out.all hl4 hk4)
            have HB4 := Lib.hid (HBA.out.trans hb4)
            clear hl4 hb4 hk4 CX HP0 HP HBA HB
            have c0 : w4.cell? ⟨w.heap.size, 0, none⟩ = some .nilIface := by simp [World.cell?, HP4.out.err]
            have f0 : w4.frozen? ⟨w.heap.size, 0, none⟩ = false := by simp [World.frozen?, HP4.out.err]
            go_wp2
            simp only [Exit.jump]
            go_wp2
            refine leaves_cons (f := 88) (args := #[.pointer (some ⟨ps, 0, none⟩), .pointer (some ⟨w.heap.size, 0, none⟩)]) (by simp) (by simp [go_sem]) ?_
            refine (rec_caught ⟨ps, 0, none⟩ ⟨w.heap.size, 0, none⟩ a .nilIface [] w4 c0 f0).mono ?_
            rintro e u' w'' ⟨rfl, rfl, rfl⟩
            have d0 := World.cell?_setCell_same w4 ⟨w.heap.size, 0, none⟩ (.iface 161 (.pointer (some ⟨a, 0, none⟩))) c0
            have HB5 := Lib.hid (HB4.out.setCell (p := ⟨w.heap.size, 0, none⟩) (Nat.le_refl _) (.iface 161 (.pointer (some ⟨a, 0, none⟩))))
            simp [Leaves, settle, results, Tryz.results76, go_sem, d0]
            exact ⟨HB5.out, .inl ⟨HF.out, _, _, rfl⟩⟩
  · rintro a W ⟨kv, cs, b, m, cb, ps, u0, u1, u4, u5, u6, u7, u8, u9, u10, u11, u12, u13, u14, u15, u16, u17, u18, u19, u20, u21, u22, u23, u24, u25, u26, u27, u28, u29, u30, u31, u32, u33, u34, u35, u36, u37, u38, u39, u40, u41, u42, u43, u44, u45, u46, u47, u48, u49, u50, u51, u52, u53, u54, u55, u56, u57, u58, u59, u60, u61, u62, u63, u64, u65, u66, u67, u68, u69, u70, u71, u72, u73, u74, u75, u76, u77, u78, u79, u80, u81, u82, u83, u84, u85, u86, u87, rfl, hF, hP, hB, hE⟩
    have c0 : W.cell? ⟨w.heap.size, 0, none⟩ = some .nilIface := by simp [World.cell?, hE]
    have f0 : W.frozen? ⟨w.heap.size, 0, none⟩ = false := by simp [World.frozen?, hE]
    have HP2 := Lib.hid (hP.set (W' := W.setCell ⟨w.heap.size, 0, none⟩ .nilIface) hE fun r hr => Below.heap_setCell _ _ _ _ (by exact hr))
    have HB2 := Lib.hid (hB.setCell (p := ⟨w.heap.size, 0, none⟩) (Nat.le_refl _) .nilIface)
    have HF := Lib.hid hF
    have d0 := World.cell?_setCell_same W ⟨w.heap.size, 0, none⟩ .nilIface c0
    clear hP hB hE hF
    go_wp2
    simp only [Exit.jump]
    go_wp2
    refine leaves_cons (f := 88) (args := #[.pointer (some ⟨ps, 0, none⟩), .pointer (some ⟨w.heap.size, 0, none⟩)]) (by simp) (by simp [go_sem]) ?_
    refine (rec_idle ⟨ps, 0, none⟩ ⟨w.heap.size, 0, none⟩ _).mono ?_
    rintro e u' w'' ⟨rfl, rfl, rfl⟩
    simp [Leaves, settle, results, Tryz.results76, go_sem, d0]
    exact ⟨HB2.out, .inr ⟨kv, cs, b, m, cb, HF.out, rfl, HP2.out⟩⟩
end Go.Proofs.YtdfhidnhkeapbaaGreatDoor
