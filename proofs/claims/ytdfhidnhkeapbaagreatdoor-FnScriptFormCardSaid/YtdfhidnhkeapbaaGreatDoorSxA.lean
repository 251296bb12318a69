/- A set of properties with any signs around a key, in memory; what its steps leave. No condition of its own. Map, Keys and GetComments of a set with any signs around a key. Condition: the number of keys. impl.PropScript: steps over one set, by what each step does. Conditions: the number of steps, of keys and of comments. impl.step: setting and getting. Conditions: what Set and Get tell. -/
import Derived.Test.YtdfhidnhkeapbaaGreatDoorLxProps
namespace Go.Proofs.YtdfhidnhkeapbaaGreatDoor
open Go.RowKit U8
open Go.Lib hiding intOf

/-- As Po, with any signs. -/
def PoG (pre post : List UInt8) (B b m cb : Nat) (d : Bool) (kv : KV2) (cs : CS2) (W : World) : Prop :=
  B ≤ b ∧ B ≤ m ∧ B ≤ cb ∧ m ≠ cb ∧ ∃ vk vc, W.heap[b]? = some (.cells #[.string (txt pre), .string (txt post), .bool d, .map (some m), .map (some cb), vk, .string ⟨#[]⟩] 63 (0, 0)) ∧
    MB m (kvW (sV kv)) W ∧ (kv.map Prod.fst).Nodup ∧ Cm vk vc cb cs W ∧ (cs.map Prod.fst).Nodup ∧ W.ownsRow B 9 1 vk (kv.map Prod.fst).length (strsV (kv.map Prod.fst))
theorem poG_of {B b m cb : Nat} {d : Bool} {kv : KV2} {cs : CS2} {W : World} (h : Po B b m cb d kv cs W) : PoG [36, 123] [125] B b m cb d kv cs W := h
theorem po_of {B b m cb : Nat} {d : Bool} {kv : KV2} {cs : CS2} {W : World} (h : PoG [36, 123] [125] B b m cb d kv cs W) : Po B b m cb d kv cs W := h
/-- All blocks but rows of properties and of answers stand. -/
def NKs (W W' : World) : Prop := ∀ (r : Nat) (o : Obj), W.heap[r]? = some o → (∀ x fz, o ≠ .cells x 36 fz) → (∀ x fz, o ≠ .cells x 38 fz) → W'.heap[r]? = some o
theorem NKs.below {W W' : World} (h : Below W.heap.size W W') : NKs W W' := fun r _ hr _ _ => (h.block r (lt_of_some hr)).trans hr
theorem NKs.trans {W W1 W2 : World} (h : NKs W W1) (h2 : NKs W1 W2) : NKs W W2 := fun r o hr hn hm => h2 r o (h r o hr hn hm) hn hm
theorem NKs.of {W W' : World} (h : NK W W') : NKs W W' := fun r o hr hn _ => h r o hr hn
theorem NKs.own {B n k : Nat} {v : Value} {xs : List Value} {W W' : World} {e : TypeId} (he : e = 36 ∨ e = 38) (h : W.ownsRow B e k v n xs) (hk : ∀ k, k < W.heap.size → v.ownBlock ≠ some k → W'.heap[k]? = W.heap[k]?) : NKs W W' := fun r o hr hn hm => by
  rw [hk r (lt_of_some hr) (fun e => ?_)]
  · exact hr
  · rcases h.2 with ⟨rfl, _⟩ | ⟨g, cap, cur, rfl, _, hg, _⟩
    · cases e
    · have : g = r := by simpa [Value.ownBlock] using e
      subst this
      rw [hg] at hr
      rcases he with rfl | rfl
      · exact hn _ _ (Option.some.inj hr).symm
      · exact hm _ _ (Option.some.inj hr).symm
theorem NKs.cells {W W' : World} (h : NKs W W') {r : Nat} {x : Array Value} {T : TypeId} {fz : Nat × Nat} (hr : W.heap[r]? = some (.cells x T fz)) (hT : T ≠ 36) (hU : T ≠ 38) : W'.heap[r]? = some (.cells x T fz) := h r _ hr (fun y f e => by cases e; exact hT rfl) (fun y f e => by cases e; exact hU rfl)
theorem NKs.map {W W' : World} (h : NKs W W') {r : Nat} {es : Array MapEntry} {c : Nat} (hr : W.heap[r]? = some (.map es c)) : W'.heap[r]? = some (.map es c) := h r _ hr (fun y f e => by cases e) (fun y f e => by cases e)
theorem MB.nks {m : Nat} {es : Es} {W W' : World} (h : MB m es W) (hk : NKs W W') : MB m es W' := by
  obtain ⟨arr, c, hm⟩ := h.cells
  exact h.of ((hk.map hm).trans hm.symm)
theorem Ts.nks {v : Value} {l : List (List UInt8)} {W W' : World} (h : Ts W v l) (hk : NKs W W') : Ts W' v l := h.keep fun g x fz hg => (hk.cells hg (by decide) (by decide)).trans hg.symm
theorem PoG.nks {pre post : List UInt8} {B b m cb : Nat} {d : Bool} {kv : KV2} {cs : CS2} {W W' : World} (h : PoG pre post B b m cb d kv cs W) (hk : NKs W W') : PoG pre post B b m cb d kv cs W' := by
  obtain ⟨h1, h2, h3, h4, vk, vc, ho, hm, hn, hc, hcn, hr⟩ := h
  obtain ⟨cw, hc1, hc2, hc3⟩ := id hc
  obtain ⟨_, _, hcb⟩ := hc2.cells
  exact ⟨h1, h2, h3, h4, vk, vc, hk.cells ho (by decide) (by decide), hm.nks hk, hn, hc.keep ((hk.map hcb).trans hcb.symm) (fun g y fz hg a b => ⟨(hk.cells hg (by decide) (by decide)).trans hg.symm, a, b⟩), hcn, owns_of hr fun g hg => by
    obtain ⟨y, fz, hy⟩ := own_kind hr hg
    exact (hk.cells hy (by decide) (by decide)).trans hy.symm⟩
theorem PoG.below {pre post : List UInt8} {B b m cb : Nat} {d : Bool} {kv : KV2} {cs : CS2} {W W' : World} (h : PoG pre post B b m cb d kv cs W) (hb : Below W.heap.size W W') : PoG pre post B b m cb d kv cs W' := h.nks (NKs.below hb)
/-- Rows of other kinds than a set's own stand. -/
def KS (W W' : World) : Prop := ∀ (r : Nat) (x : Array Value) (T : TypeId) (fz : Nat × Nat), W.heap[r]? = some (.cells x T fz) → T ≠ 9 → T ≠ 63 → W'.heap[r]? = W.heap[r]?
theorem KS.refl (W : World) : KS W W := fun _ _ _ _ _ _ _ => rfl
theorem KS.trans {W W1 W2 : World} (h : KS W W1) (h2 : KS W1 W2) : KS W W2 := fun r x T fz hr h3 h4 => by
  have e := h r x T fz hr h3 h4
  exact (h2 r x T fz (e.trans hr) h3 h4).trans e
theorem KS.below {W W' : World} (h : Below W.heap.size W W') : KS W W' := fun r _ _ _ hr _ _ => h.block r (lt_of_some hr)
/-- What an expansion asks of a set. -/
def PoM (pre post : List UInt8) (b m : Nat) (kv : KV2) (W : World) : Prop :=
  (∃ c4 c5 c6, W.heap[b]? = some (.cells #[.string (txt pre), .string (txt post), .bool false, .map (some m), c4, c5, c6] 63 (0, 0))) ∧ MB m (kvW (sV kv)) W ∧ (kv.map Prod.fst).Nodup
theorem PoG.pom {pre post : List UInt8} {B b m cb : Nat} {kv : KV2} {cs : CS2} {W : World} (h : PoG pre post B b m cb false kv cs W) : PoM pre post b m kv W := by
  obtain ⟨_, _, _, _, vk, vc, ho, hm, hn, _⟩ := h
  exact ⟨⟨_, _, _, ho⟩, hm, hn⟩
/-- How an expansion that works out ends. -/
def ExpsOk (b : Nat) (key val r : List UInt8) (W : World) : Prop :=
  Calls Tryz.prog 63 #[.pointer (some ⟨b, 0, none⟩), .string (txt key), .string (txt val)] W fun e w' => e = .returned (.tuple #[.string (txt r), .nilIface]) ∧ Below W.heap.size W w'
set_option maxHeartbeats 800000 in
theorem get_missG (pre post : List UInt8) (B b m cb : Nat) (d : Bool) (kv : KV2) (cs : CS2) (k : List UInt8) (w : World) (h : PoG pre post B b m cb d kv cs w) (hk : k ∉ kv.map Prod.fst) :
    Calls Tryz.prog 43 #[.pointer (some ⟨b, 0, none⟩), .string (txt k)] w fun e w' => e = .returned (.tuple #[.string ⟨#[]⟩, .bool false]) ∧ w' = w := by
  obtain ⟨_, _, _, _, vk, vc, ho, hm, hn, _⟩ := h
  have c2 : w.cell? ⟨b, 2, none⟩ = some (.bool d) := by simp [World.cell?, ho]
  have c3 : w.cell? ⟨b, 3, none⟩ = some (.map (some m)) := by simp [World.cell?, ho]
  have hlk := (lookw_miss (P := Tryz.prog) 60 9 9 m (sV kv) k (.string ⟨#[]⟩) Tryz.underlying60 Tryz.underlying9 (by kernel_rfl) hm (fun p hp e => by
    obtain ⟨q, hq, rfl⟩ := List.mem_map.1 hp
    exact hk (List.mem_map.2 ⟨q, hq, e⟩))).1
  clear hm hn ho hk
  cases d
  all_goals
    go_enter Tryz.func43, Tryz.ntmps43
    go_wp2
    go_ret2
    exact ⟨rfl, rfl⟩
set_option maxHeartbeats 800000 in
theorem get_fullG (pre post : List UInt8) (B b m cb : Nat) (kv : KV2) (cs : CS2) (k v r : List UInt8) (W : World) (h : PoG pre post B b m cb false kv cs W) (hk : (k, v) ∈ kv) (C : ExpsOk b k v r W) :
    Calls Tryz.prog 43 #[.pointer (some ⟨b, 0, none⟩), .string (txt k)] W fun e w' => e = .returned (.tuple #[.string (txt r), .bool true]) ∧ Below W.heap.size W w' := by
  have C := Lib.hid C
  obtain ⟨_, _, _, _, vk, vc, ho, hm, hn, _⟩ := h
  have c2 : W.cell? ⟨b, 2, none⟩ = some (.bool false) := by simp [World.cell?, ho]
  have c3 : W.cell? ⟨b, 3, none⟩ = some (.map (some m)) := by simp [World.cell?, ho]
  have hlk := (lookw_hit (P := Tryz.prog) 60 9 9 m (sV kv) k (.string (txt v)) Tryz.underlying60 Tryz.underlying9 hm (by rw [sV_fst]; exact hn) (List.mem_map.2 ⟨(k, v), hk, rfl⟩)).1
  clear hm hn ho hk
  go_enter Tryz.func43, Tryz.ntmps43
  go_wp2_with fail
  refine C.out.mono ?_
  rintro e w1 ⟨rfl, hb⟩
  have HB := Lib.hid hb
  have hne : (binOp .neq 90 .nilIface .nilIface).run Tryz.prog w1 = .ok (.bool false) w1 := by kernel_rfl
  clear hb hlk
  go_wp2
  go_ret2
  exact ⟨rfl, HB.out⟩
set_option maxHeartbeats 1600000 in
set_option maxRecDepth 100000 in
theorem set_newF (pre post : List UInt8) (B b m cb : Nat) (kv : KV2) (cs : CS2) (key val r : List UInt8) (W : World) (h : PoG pre post B b m cb false kv cs W) (hk : key ≠ []) (hn : key ∉ kv.map Prod.fst) (hB : B ≤ W.heap.size) (hl : kv.length ≤ 1000000)
    (HX : ∀ W', PoM pre post b m (kv ++ [(key, val)]) W' → ExpsOk b key val r W') :
    Calls Tryz.prog 42 #[.pointer (some ⟨b, 0, none⟩), .string (txt key), .string (txt val)] W fun e w' => e = .returned (.tuple #[.string ⟨#[]⟩, .bool false, .nilIface]) ∧ PoG pre post B b m cb false (kv ++ [(key, val)]) cs w' ∧ Below B W w' ∧ KS W w' := by
  obtain ⟨i0, hi, hz0, hz1, hz2⟩ := info_parts Tryz.infoStr
  have CG := Lib.hid (get_missG pre post B b m cb false kv cs key W h hn)
  obtain ⟨h1, h2, h3, h4, vk, vc, ho, hm, hnd, hc, hcn, hr⟩ := h
  obtain ⟨n, hnn⟩ : ∃ n, (kv.map Prod.fst).length = n := ⟨_, rfl⟩
  have HNN := Lib.hid hnn
  rw [hnn] at hr
  clear hnn
  obtain ⟨ao0, cap0, rfl⟩ := owns_slice hr
  have hek : ((txt key).toList == ([] : List UInt8)) = false := by rw [txt_toList]; exact beq_eq_false_iff_ne.2 hk
  have c2 : W.cell? ⟨b, 2, none⟩ = some (.bool false) := by simp [World.cell?, ho]
  have c3 : W.cell? ⟨b, 3, none⟩ = some (.map (some m)) := by simp [World.cell?, ho]
  obtain ⟨w5, hmu, hM5, hk5, hs5, hb5⟩ := putw (P := Tryz.prog) 60 9 9 m (sV kv) (key, .string (txt val)) B h2 Tryz.underlying60 Tryz.underlying9 hm (by rw [sV_fst]; exact hnd)
  have hup : updA kv (key, val) = kv ++ [(key, val)] := by unfold updA; rw [if_neg hn]
  rw [← sV_upd, hup] at hM5
  have hnd2 : ((kv ++ [(key, val)]).map Prod.fst).Nodup := by rw [← hup]; exact updA_nodup hnd _
  obtain ⟨_, _, hmc⟩ := hm.cells
  have hbm : b ≠ m := ne_of_map ho hmc
  have ho5 : w5.heap[b]? = _ := (hk5 b hbm).trans ho
  have CE := Lib.hid (HX w5 ⟨⟨_, _, _, ho5⟩, hM5, hnd2⟩)
  have hs : W.heap.size ≤ w5.heap.size := by rw [hs5]; exact Nat.le_refl _
  have hs5' : B ≤ w5.heap.size := Nat.le_trans hB hs
  have HM5 := Lib.hid hM5
  have HO5 := Lib.hid ho5
  have HK5 := Lib.hid hk5
  have HB5 := Lib.hid hb5
  have HR := Lib.hid hr
  have HC := Lib.hid hc
  have HHO := Lib.hid ho
  have HHM := Lib.hid hmc
  have HN2 := Lib.hid hnd2
  have HL := Lib.hid hl
  clear hM5 ho5 hk5 hb5 hr hc ho hm hmc hnd hnd2 hup hs5 HX hn hk hs hbm
  have hmu2 : (Instr.mapUpdate 60 (.map (some m)) (.string (txt key)) (.string (txt val))).run Tryz.prog W = .ok () w5 := hmu
  clear hmu
  go_enter Tryz.func42, Tryz.ntmps42
  go_wp2_with fail
  refine CG.out.mono ?_
  rintro e wg ⟨rfl, hwg⟩
  obtain rfl := hwg.symm
  clear CG
  go_wp2_with fail
  refine CE.out.mono ?_
  rintro e w6 ⟨rfl, hb6⟩
  have hne : (binOp .neq 90 .nilIface .nilIface).run Tryz.prog w6 = .ok (.bool false) w6 := by kernel_rfl
  have hs6 := hb6.size
  have hk6 : ∀ r, r < w5.heap.size → w6.heap[r]? = w5.heap[r]? := fun r hr => hb6.block r hr
  have HK6 : Hid (∀ r o, W.heap[r]? = some o → r ≠ m → w6.heap[r]? = some o) := by
    show ∀ _ _ _ _, _
    intro r o hr hne
    have e5 := HK5.out r hne
    exact (hk6 r (lt_of_some (e5.trans hr))).trans (e5.trans hr)
  have o6 : w6.heap[b]? = _ := HK6.out b _ HHO.out (ne_of_map HHO.out HHM.out)
  have hown6 : w6.ownsRow B 9 1 (.slice ao0 n cap0) n (strsV (kv.map Prod.fst)) := owns_of HR.out fun g hg => by
    obtain ⟨y, fz, hy⟩ := own_kind HR.out hg
    exact (HK6.out g _ hy (ne_of_map hy HHM.out)).trans hy.symm
  have HM6 := Lib.hid (HM5.out.of (hk6 m HM5.out.lt))
  have e6 : w6.cell? ⟨b, 5, none⟩ = some (.slice ao0 n cap0) := by simp [World.cell?, o6]
  have HO6 := Lib.hid o6
  have HOW6 := Lib.hid hown6
  have HB6 := Lib.hid (HB5.out.trans (hb6.mono hs5'))
  have hkl : n ≤ 1000000 := by rw [← HNN.out, List.length_map]; exact HL.out
  have hs6' := HB6.out.size
  have hB6 : B ≤ w6.heap.size := by omega
  clear hb6 hk6 o6 hown6 CE HL
  go_wp2_with (at_builtin; refine wpList_app1m rfl _ _ 34 9 rfl i0 (.string ⟨#[]⟩) 16 Tryz.underlying34 hi hz0 hz1 hz2 rfl B _ n _ rfl HOW6.out (.string (txt key)) rfl _ rfl rfl (by omega) (by omega) hB6 ?_)
  intro ao cap w7 hown7 hb7 hk7 ha7 hs7
  have hob : (Value.slice ao0 n cap0).ownBlock ≠ some b := own_ne_cells HOW6.out HO6.out (by decide)
  have o7 : w7.heap[b]? = _ := (hk7 b (lt_of_some HO6.out) hob).trans HO6.out
  have e7 : w7.cell? ⟨b, 5, none⟩ = some (.slice ao0 n cap0) := by simp [World.cell?, o7]
  have f7 : w7.frozen? ⟨b, 5, none⟩ = false := by simp [World.frozen?, o7]
  have HPF : Hid (PoG pre post B b m cb false (kv ++ [(key, val)]) cs (w7.setCell ⟨b, 5, none⟩ (.slice ao (n + 1) cap))) := by
    obtain ⟨cw, hc1, hc2, hc3⟩ := id HC.out
    obtain ⟨_, _, hcb⟩ := hc2.cells
    obtain ⟨_, _, hm6⟩ := HM6.out.cells
    have hcb6 : w6.heap[cb]? = _ := HK6.out cb _ hcb h4.symm
    have hst : ∀ r, r ≠ b → (w7.setCell ⟨b, 5, none⟩ (.slice ao (n + 1) cap)).heap[r]? = w7.heap[r]? := fun r hr => Below.heap_setCell _ _ _ _ (by exact hr)
    have hlen : ((kv ++ [(key, val)]).map Prod.fst).length = n + 1 := by rw [List.map_append, List.length_append, HNN.out]; rfl
    have hstr : strsV ((kv ++ [(key, val)]).map Prod.fst) = strsV (kv.map Prod.fst) ++ [.string (txt key)] := by rw [List.map_append]; unfold strsV; rw [List.map_append]; rfl
    refine ⟨h1, h2, h3, h4, .slice ao (n + 1) cap, vc, ?_, ?_, HN2.out, ?_, hcn, ?_⟩
    · simp [World.setCell, Array.getElem?_modify, o7]
    · exact HM6.out.of ((hst m (ne_of_map HO6.out hm6).symm).trans (hk7 m HM6.out.lt (own_ne_map HOW6.out hm6)))
    · refine HC.out.keep ?_ fun g x fz hg hv1 hv2 => ?_
      · rw [hst cb (ne_of_map HHO.out hcb).symm, hk7 cb (lt_of_some hcb6) (own_ne_map HOW6.out hcb6), hcb6, hcb]
      · have g6 := HK6.out g _ hg (ne_of_map hg HHM.out)
        have hgb : g ≠ b := ne_of_types g6 HO6.out (by decide)
        refine ⟨?_, ha7 g (lt_of_some g6) hv1, hv2⟩
        rw [hst g hgb, hk7 g (lt_of_some g6) hv1, g6, hg]
    · rw [hlen, hstr]
      exact owns_of hown7 fun g hg => hst g (fun e => by
        have := own_ne_cells hown7 o7 (by decide)
        exact this (by rw [hg, e]))
  have HBF := Lib.hid ((HB6.out.trans hb7).setCell (p := ⟨b, 5, none⟩) h1 (.slice ao (n + 1) cap))
  have HKF : Hid (KS W (w7.setCell ⟨b, 5, none⟩ (.slice ao (n + 1) cap))) := by
    show KS _ _
    intro r x T fz hr hT hU
    have r6 := HK6.out r _ hr (ne_of_map hr HHM.out)
    have hrb : r ≠ b := ne_of_types hr HHO.out hU
    rw [Below.heap_setCell _ _ _ _ (by exact hrb), hk7 r (lt_of_some r6) (own_ne_cells HOW6.out r6 hT), r6, hr]
  clear hown7 hb7 hk7 ha7 hs7 o7 hob
  go_wp2
  go_ret3
  exact ⟨rfl, HPF.out, HBF.out, HKF.out⟩

set_option maxHeartbeats 1600000 in
set_option maxRecDepth 100000 in
theorem map_anyG (pre post : List UInt8) (B b m cb : Nat) (d : Bool) (kv : KV2) (cs : CS2) (w : World) (h : PoG pre post B b m cb d kv cs w) :
    Calls Tryz.prog 31 #[.pointer (some ⟨b, 0, none⟩)] w fun e w' => ∃ x acc, e = .returned (.map (some x)) ∧ w.heap.size ≤ x ∧ MB x (eV acc) w' ∧ acc.Perm kv ∧ Below w.heap.size w w' := by
  obtain ⟨_, _, _, _, vk, vc, ho, hm, hn, _⟩ := h
  rw [kvW_sV] at hm
  have hmm := @run_makeMap Tryz.prog
  have d3 : w.cell? ⟨b, 3, none⟩ = some (.map (some m)) := by simp [World.cell?, ho]
  have hbl := lt_of_some ho
  have hml := hm.lt
  have HM2 : Hid (MB m (eV kv) (w.alloc (.map #[] 0))) := hm.of (al_old _ _ _ hml)
  have HX2 : Hid (MB w.heap.size (eV []) (w.alloc (.map #[] 0))) := mb_new (al_new w (.map #[] 0) _ rfl)
  have HB2 : Hid (Below w.heap.size w (w.alloc (.map #[] 0))) := (Below.refl _ _).alloc (Nat.le_refl _) _
  have HN := Lib.hid hn
  clear ho hm hn
  go_enter Tryz.func31, Tryz.ntmps31
  go_wp2_with (at_range; refine wpList_range_mb rfl _ _ rfl 9 9 Tryz.underlying60 m (eV kv) rfl HM2.out ?_)
  intro w3 hrg hb3 hs3
  have hX3 : MB w.heap.size (eV []) w3 := HX2.out.of (hb3.block _ (by omega))
  have HB3 : Hid (Below w.heap.size w w3) := HB2.out.trans (hb3.mono (by omega))
  have hGX : w.heap.size ≠ w.heap.size + 1 := by omega
  have hGB : w.heap.size ≤ w.heap.size + 1 := by omega
  have hXm : w.heap.size ≠ m := by omega
  have HRG := Lib.hid hrg
  have HX3 := Lib.hid hX3
  clear hrg hb3 hs3 hX3 HM2 HX2 HB2 d3 hmm hml hbl
  generalize w.heap.size + 1 = G at *
  go_wp2
  go_loopg [4, 5] (kv.length + 1) (fun gk v4 v5 wr => ∃ (rem acc : KV2), rem.length < gk ∧ Hid (RG G m (eV kv) (eV rem) wr) ∧ Hid (MB w.heap.size (eV acc) wr) ∧ Hid ((acc ++ rem).Perm kv) ∧ Hid (Below w.heap.size w wr))
  case atStart => exact ⟨kv, [], by omega, HRG.out, HX3.out, List.Perm.refl _, HB3.out⟩
  case round =>
    obtain ⟨rem, acc, hg, HR, HX, HP, HB⟩ := hrel
    go_wp2_with (at_next; refine wpList_next_mb rfl _ rfl G m (eV kv) (eV rem) rfl HR.out w.heap.size hGB ?_ ?_)
    · intro hrem
      have hr0 : rem = [] := by simpa [eV] using hrem
      subst hr0
      have HP2 : Hid (acc.Perm kv) := by show List.Perm _ _; simpa using HP.out
      clear hrem
      go_wp2
      go_ret
      exact ⟨_, acc, rfl, Nat.le_refl _, HX.out, HP2.out, HB.out⟩
    · intro l1 l2 key v w4 hrem hmem hrg4 hb4 hk4 hs4 hen
      obtain ⟨r1, p, r2, rfl, rfl, rfl, rfl, rfl⟩ := eV_split hrem
      have hnd : ((acc ++ (r1 ++ p :: r2)).map Prod.fst).Nodup := (HP.out.map Prod.fst).nodup_iff.2 HN.out
      have hna : ¬ p.1 ∈ acc.map Prod.fst := by
        rw [List.map_append, List.nodup_append] at hnd
        exact fun hm => hnd.2.2 _ hm p.1 (by simp) rfl
      have hx4 : MB w.heap.size (kvW (sV acc)) w4 := by rw [kvW_sV]; exact HX.out.of (hk4 _ hGX)
      obtain ⟨w5, hmu, hM5, hk5, hs5, hb5⟩ := putw (P := Tryz.prog) 60 9 9 w.heap.size (sV acc) (p.1, .string (txt p.2)) w.heap.size (Nat.le_refl _) Tryz.underlying60 Tryz.underlying9 hx4 (by
        rw [sV_fst]
        rw [List.map_append, List.nodup_append] at hnd
        exact hnd.1)
      have HX5 : Hid (MB w.heap.size (eV (acc ++ [p])) w5) := by
        have e : updA (sV acc) (p.1, .string (txt p.2)) = sV (acc ++ [p]) := by
          unfold updA
          rw [if_neg (by rw [sV_fst]; exact hna)]
          simp [sV]
        rw [e, kvW_sV] at hM5
        exact hM5
      have HR5 : Hid (RG G m (eV kv) (eV (r1 ++ r2)) w5) := by
        have e : eV (r1 ++ r2) = eV r1 ++ eV r2 := by simp [eV]
        show RG _ _ _ _ _
        rw [e]
        exact hrg4.of (hk5 _ hXm.symm) (hk5 _ hGX.symm)
      have HP5 : Hid (((acc ++ [p]) ++ (r1 ++ r2)).Perm kv) := by
        show List.Perm _ _
        refine List.Perm.trans ?_ HP.out
        rw [List.append_assoc]
        refine List.Perm.append_left acc ?_
        show (p :: (r1 ++ r2)).Perm _
        exact List.perm_middle.symm
      have HB5 := Lib.hid ((HB.out.trans hb4).trans hb5)
      obtain ⟨gk, rfl⟩ : ∃ m, gk = m + 1 := ⟨gk - 1, by omega⟩
      rw [List.length_append, List.length_cons] at hg
      clear hrem hmem hrg4 hb4 hk4 hs4 HR HX HP HB hM5 hk5 hs5 hb5 hx4 hnd hna
      go_wp2
      go_roundg gk
      case rel => exact ⟨r1 ++ r2, acc ++ [p], by rw [List.length_append]; omega, HR5.out, HX5.out, HP5.out, HB5.out⟩
      case measure => omega
set_option maxHeartbeats 1600000 in
set_option maxRecDepth 100000 in
theorem keys_anyG (pre post : List UInt8) (B b m cb : Nat) (d : Bool) (kv : KV2) (cs : CS2) (w : World) (h : PoG pre post B b m cb d kv cs w) (hl : kv.length ≤ 1000000) :
    Calls Tryz.prog 32 #[.pointer (some ⟨b, 0, none⟩)] w fun e w' => ∃ g, e = .returned (.slice (some ⟨g, 0, none⟩) (kv.map Prod.fst).length (kv.map Prod.fst).length) ∧ w'.heap[g]? = some (.cells (strsV (kv.map Prod.fst)).toArray 9 (0, 0)) ∧ w.heap.size ≤ g ∧ Below w.heap.size w w' := by
  obtain ⟨_, _, _, _, vk, vc, ho, _, _, _, _, hown⟩ := h
  obtain ⟨i0, hi, hz0, hz1, hz2⟩ := info_parts Tryz.infoStr
  obtain ⟨K, hK⟩ : ∃ K, kv.map Prod.fst = K := ⟨_, rfl⟩
  have hkl : K.length ≤ 1000000 := by rw [← hK, List.length_map]; exact hl
  rw [hK] at hown ⊢
  clear hl hK
  obtain ⟨w2, hmk, hown0, hgr⟩ := run_make_full (P := Tryz.prog) w w.heap.size 34 9 i0 (.string ⟨#[]⟩) 1 Tryz.underlying34 hi hz0 hz1 .i64 .i64 K.length (by rw [hz2]; omega) (by unfold maxLen; omega) (Nat.le_refl _)
  have hB2 : Below w.heap.size w w2 := (Below.refl _ w).grown hgr (Nat.le_refl _) (fun k hk => by cases hk)
  have d5 : w.cell? ⟨b, 5, none⟩ = some vk := by simp [World.cell?, ho]
  have d52 : w2.cell? ⟨b, 5, none⟩ = some vk := (hB2.cell (p := ⟨b, 5, none⟩) (lt_of_some ho)).trans d5
  have hown2 : w2.ownsRow B 9 1 vk K.length (strsV K) := owns_below hown hB2
  obtain ⟨cur, hcur, hcl⟩ : ∃ cur : List Value, w2.heap[w.heap.size]? = some (.cells cur.toArray 9 (0, 0)) ∧ cur.length = K.length := by
    rcases hown0.2 with ⟨e, _⟩ | ⟨g, cap, cur, e, _, hg, _, _, hcs, _⟩
    · cases e
    · cases e
      exact ⟨cur.toList, hg, by simpa using hcs⟩
  obtain ⟨ao, cap, rfl⟩ := owns_slice hown2
  have hcells : ∀ j (u : Value), (strsV K)[j]? = some u → ∃ ad, ao = some ad ∧ w2.cell? (ad.add j) = some u := by
    intro j u hj
    rcases hown2.2 with ⟨e, h0⟩ | ⟨g, cap, cur, e, _⟩
    · have := (List.getElem?_eq_some_iff.1 hj).1
      unfold strsV at this
      rw [List.length_map] at this
      omega
    · have hoa : ao = some ⟨g, 0, none⟩ := by cases e; rfl
      exact ⟨_, hoa, World.ownsRow.cells hown2 (by rw [e]; rfl) j u hj⟩
  have hone : ∀ u ∈ strsV K, u.oneCell' = true := by
    intro u hu
    unfold strsV at hu
    obtain ⟨x, _, rfl⟩ := List.mem_map.1 hu
    rfl
  have hsl : (strsV K).length = K.length := by unfold strsV; rw [List.length_map]
  have hspl : splice cur 0 (strsV K) = strsV K := by
    unfold splice
    rw [List.take_zero, List.nil_append, Nat.zero_add, hsl, ← hcl, List.drop_length, List.append_nil]
  obtain ⟨z, w3, hcp, hnew, hb3⟩ : ∃ z w3, (Builtin.copy_ #[34, 34] 3 #[.slice (some ⟨w.heap.size, 0, none⟩) K.length K.length, .slice ao K.length cap]).run Tryz.prog w2 = .ok z w3 ∧ w3.heap[w.heap.size]? = some (.cells (splice cur 0 (strsV K)).toArray 9 (0, 0)) ∧ Below w.heap.size w w3 := by
    by_cases h0 : K.length = 0
    · have hrun := run_copy_none (P := Tryz.prog) w2 34 34 3 9 (some ⟨w.heap.size, 0, none⟩) ao K.length K.length K.length cap Tryz.underlying34 (by kernel_rfl) (by rw [h0]; rfl)
      refine ⟨_, w2, hrun, ?_, hB2⟩
      rw [hspl, hcur]
      obtain rfl : K = [] := List.eq_nil_of_length_eq_zero h0
      obtain rfl : cur = [] := List.eq_nil_of_length_eq_zero hcl
      rfl
    · have h00 : 0 < (strsV K).length := by omega
      obtain ⟨ad, e, _⟩ := hcells 0 _ (List.getElem?_eq_getElem h00)
      subst e
      have hrun := run_copy_row (P := Tryz.prog) w2 34 34 3 9 w.heap.size 0 K.length K.length ad K.length cap cur.toArray 9 (strsV K) Tryz.underlying34 (by kernel_rfl) hcur (by rw [hsl]; exact (Nat.min_self _).symm) (fun j u hj => by
        obtain ⟨ad2, e2, hc⟩ := hcells j u hj
        cases e2
        exact hc) (by simp; omega) hone
      refine ⟨_, _, hrun, ?_, below_setRow hB2 (Nat.le_refl _) _⟩
      rw [setRow_heap w2 _ _ _ _ _ hcur]
      simp [splice]
  have HCUR := Lib.hid hcur
  have HCELLS := Lib.hid hcells
  have HONE := Lib.hid hone
  have HSPL := Lib.hid hspl
  have HB2 := Lib.hid hB2
  have HSL := Lib.hid hsl
  have HCL := Lib.hid hcl
  have hmk2 : (Instr.makeSlice 34 (.int .i64 K.length) (.int .i64 K.length)).run Tryz.prog w = .ok (.slice (some ⟨w.heap.size, 0, none⟩) K.length K.length) w2 := hmk
  clear hmk hown hown0 hgr hB2 hown2 hcur hcells hone hspl hsl hcl ho HCUR HCELLS HONE HSL HCL HB2
  go_enter Tryz.func32, Tryz.ntmps32
  rw [HSPL.out] at hnew
  have HN := Lib.hid hnew
  have HB3 := Lib.hid hb3
  clear hnew hb3
  go_wp2
  go_ret
  exact ⟨_, rfl, HN.out, Nat.le_refl _, HB3.out⟩
/-- GetComments. -/
theorem getc_anyG (pre post : List UInt8) (B b m cb : Nat) (d : Bool) (kv : KV2) (cs : CS2) (k : List UInt8) (w : World) (h : PoG pre post B b m cb d kv cs w) :
    Calls Tryz.prog 33 #[.pointer (some ⟨b, 0, none⟩), .string (txt k)] w fun e w' => (∃ v, e = .returned v ∧ (v = .slice none 0 0 ∨ ∃ a c, v = .slice (some a) (cmOf cs k).length c) ∧ Ts w v (cmOf cs k)) ∧ w' = w := by
  obtain ⟨CM, hCM⟩ : ∃ c, cmOf cs k = c := ⟨_, rfl⟩
  rw [hCM]
  obtain ⟨_, _, _, _, vk, vc, ho, _, _, hc, hcn, _⟩ := h
  obtain ⟨cw, rfl, hm, hcw⟩ := hc
  have hfst : ((cw.map fun q => (q.1, q.2.2)) : KW).map Prod.fst = (cw.map fun q => (q.1, q.2.1)).map Prod.fst := by rw [List.map_map, List.map_map]; rfl
  have d4 : w.cell? ⟨b, 4, none⟩ = some (.map (some cb)) := by simp [World.cell?, ho]
  by_cases hk : k ∈ (cw.map fun q => (q.1, q.2.2) : KW).map Prod.fst
  · rw [List.map_map] at hk
    obtain ⟨q, hq, rfl⟩ := List.mem_map.1 hk
    have hlk := (lookw_hit (P := Tryz.prog) 61 9 34 cb (cw.map fun q => (q.1, q.2.2)) q.1 q.2.2 Tryz.underlying61 Tryz.underlying9 hm (by rw [hfst]; exact hcn) (List.mem_map.2 ⟨q, hq, rfl⟩)).1
    have hcm : cmOf (cw.map fun q => (q.1, q.2.1)) q.1 = q.2.1 := cmOf_hit hcn (List.mem_map.2 ⟨q, hq, rfl⟩)
    have hcm : CM = q.2.1 := hCM.symm.trans hcm
    clear hCM
    have hz := hcw q hq
    obtain ⟨g, o, cap, cur, fz, e, hcp, hg, _, _, hx⟩ := hz
    have HT : Hid (Ts w q.2.2 q.2.1) := .inr ⟨g, o, cap, cur, fz, e, hcp, hg, hx⟩
    have HC := Lib.hid hcm
    have HE := Lib.hid e
    obtain ⟨qk, qc, qv⟩ := q
    simp only at *
    subst e
    clear hm hcw hcn hfst ho hx hg hcp hk hq hcm HE
    show Calls _ _ #[_, .string (txt qk)] _ _
    go_enter Tryz.func33, Tryz.ntmps33
    go_wp2
    go_ret
    exact ⟨⟨_, rfl, .inr ⟨⟨g, o, none⟩, cap, by rw [HC.out]; rfl⟩, by rw [HC.out]; exact HT.out⟩, rfl⟩
  · have hlk := (lookw_miss (P := Tryz.prog) 61 9 34 cb (cw.map fun q => (q.1, q.2.2)) k (.slice none 0 0) Tryz.underlying61 Tryz.underlying9 (by kernel_rfl) hm (fun p hp e => hk (List.mem_map.2 ⟨p, hp, e⟩))).1
    have hcm : cmOf (cw.map fun q => (q.1, q.2.1)) k = [] := cmOf_miss (fun p hp e => hk (by
      obtain ⟨q, hq, rfl⟩ := List.mem_map.1 hp
      rw [List.map_map]
      exact List.mem_map.2 ⟨q, hq, e⟩))
    have hcm : CM = [] := hCM.symm.trans hcm
    clear hCM
    have HC := Lib.hid hcm
    clear hm hcw hcn hfst ho hk hcm
    go_enter Tryz.func33, Tryz.ntmps33
    go_wp2
    go_ret
    exact ⟨⟨_, rfl, .inl rfl, .inl ⟨HC.out, _, _, rfl⟩⟩, rfl⟩

/-- An answer. -/
structure AnsA where
  t : List UInt8
  n : Int
  is : Bool
  f : Bool
  ps : List (List UInt8 × List UInt8)
abbrev StepA := Int × List UInt8 × List UInt8 × List UInt8
/-- Keys and raw values of properties, in a block of their own kind. -/
def Kx (W : World) (v : Value) (l : List (List UInt8 × List UInt8)) : Prop := ∃ ao cap, v = .slice ao l.length cap ∧ l.length ≤ cap ∧ ∀ j p, l[j]? = some p → ∃ g o cur fz, ao = some ⟨g, o, none⟩ ∧ W.heap[g]? = some (.cells cur 36 fz) ∧
  cur[o + j * 4]? = some (.string (txt p.1)) ∧ cur[o + j * 4 + 1]? = some (.string (txt p.2)) ∧ (∃ x, cur[o + j * 4 + 2]? = some (.string x)) ∧ ∃ a n c, cur[o + j * 4 + 3]? = some (.slice a n c)
theorem Kx.ks {W W' : World} {v : Value} {l : List (List UInt8 × List UInt8)} (h : Kx W v l) (hk : KS W W') : Kx W' v l := by
  obtain ⟨ao, cap, e, hc, hx⟩ := h
  refine ⟨ao, cap, e, hc, fun j p hj => ?_⟩
  obtain ⟨g, o, cur, fz, e2, hg, r⟩ := hx j p hj
  exact ⟨g, o, cur, fz, e2, (hk g _ _ _ hg (by decide) (by decide)).trans hg, r⟩
theorem kx_nil (W : World) : Kx W (.slice none 0 0) [] := ⟨none, 0, rfl, Nat.le_refl _, fun j p hj => by simp at hj⟩
theorem Kx.slice {W : World} {v : Value} {l : List (List UInt8 × List UInt8)} (h : Kx W v l) : ∃ ao cap, v = .slice ao l.length cap := by
  obtain ⟨ao, cap, e, _⟩ := h
  exact ⟨ao, cap, e⟩
def ac5 (p : AnsA × Value) : List Value := [.string (txt p.1.t), .int .i64 p.1.n, .bool p.1.is, .bool p.1.f, p.2]
def AEnts (L : List (AnsA × Value)) : List Value := L.flatMap ac5
theorem ac5_get : ∀ (L : List (AnsA × Value)) (j : Nat) (p : AnsA × Value) (i : Nat), L[j]? = some p → i < 5 → (AEnts L)[j * 5 + i]? = (ac5 p)[i]?
  | [], j, p, i, h, _ => by simp at h
  | q :: ps, 0, p, i, h, hi => by
    simp at h
    subst h
    show (ac5 q ++ AEnts ps)[0 * 5 + i]? = _
    rw [List.getElem?_append_left (by simp [ac5]; omega)]
    simp
  | q :: ps, j + 1, p, i, h, hi => by
    have ih := ac5_get ps j p i (by simpa using h) hi
    show (ac5 q ++ AEnts ps)[(j + 1) * 5 + i]? = _
    rw [List.getElem?_append_right (by simp [ac5]; omega), ← ih]
    congr 1
    simp [ac5]; omega
/-- A row of answers. -/
def Ax (W : World) (v : Value) (l : List AnsA) : Prop := ∃ ao cap, v = .slice ao l.length cap ∧ l.length ≤ cap ∧ ∀ j a, l[j]? = some a → ∃ g o pv, ao = some ⟨g, o, none⟩ ∧
  W.cell? ⟨g, o + j * 5, none⟩ = some (.string (txt a.t)) ∧ W.cell? ⟨g, o + j * 5 + 1, none⟩ = some (.int .i64 a.n) ∧ W.cell? ⟨g, o + j * 5 + 2, none⟩ = some (.bool a.is) ∧ W.cell? ⟨g, o + j * 5 + 3, none⟩ = some (.bool a.f) ∧ W.cell? ⟨g, o + j * 5 + 4, none⟩ = some pv ∧ Kx W pv a.ps
theorem ax_own {B : Nat} {v : Value} {L : List (AnsA × Value)} {W : World} (h : W.ownsRow B 38 5 v L.length (AEnts L)) (hts : ∀ p ∈ L, Kx W p.2 p.1.ps) : Ax W v (L.map Prod.fst) := by
  rcases h.2 with ⟨rfl, h0⟩ | ⟨g, cap, cur, rfl, _, hg, hcp, _⟩
  · have : L = [] := List.eq_nil_of_length_eq_zero h0
    subst this
    exact ⟨none, 0, rfl, Nat.le_refl _, fun j p hj => by simp at hj⟩
  · refine ⟨_, cap, by rw [List.length_map], by rw [List.length_map]; exact hcp, fun j p hj => ?_⟩
    rw [List.getElem?_map] at hj
    cases hq : L[j]? with
    | none => rw [hq] at hj; cases hj
    | some q =>
      rw [hq] at hj
      simp only [Option.map_some, Option.some.injEq] at hj
      subst hj
      have ad : ∀ n, (⟨g, 0, none⟩ : Addr).add n = ⟨g, 0 + n, none⟩ := fun n => by unfold Addr.add; split <;> simp_all
      have hc : ∀ i u, i < 5 → (ac5 q)[i]? = some u → W.cell? ⟨g, 0 + (j * 5 + i), none⟩ = some u := fun i u hi hu => by
        rw [← ad]
        exact World.ownsRow.cells h rfl _ _ ((ac5_get L j q i hq hi).trans hu)
      exact ⟨g, 0, q.2, rfl, hc 0 _ (by omega) rfl, by rw [Nat.add_assoc]; exact hc 1 _ (by omega) rfl, by rw [Nat.add_assoc]; exact hc 2 _ (by omega) rfl, by rw [Nat.add_assoc]; exact hc 3 _ (by omega) rfl, by rw [Nat.add_assoc]; exact hc 4 _ (by omega) rfl, hts q (List.mem_of_getElem? hq)⟩
theorem Ax.below {w w' : World} {v : Value} {l : List AnsA} (h : Ax w v l) (hb : Below w.heap.size w w') : Ax w' v l := by
  obtain ⟨ao, cap, e, hcp, hx⟩ := h
  refine ⟨ao, cap, e, hcp, fun j p hj => ?_⟩
  obtain ⟨g, o, pv, e2, h0, h1, h2, h3, h4, h5⟩ := hx j p hj
  have c : ∀ {q : Addr} {u : Value}, w.cell? q = some u → w'.cell? q = some u := fun {q u} h => (hb.cell (World.block_lt_of_cell? w _ h)).trans h
  exact ⟨g, o, pv, e2, c h0, c h1, c h2, c h3, c h4, h5.ks (KS.below hb)⟩
/-- A row of steps. -/
def Sx (W : World) (v : Value) (l : List StepA) : Prop := ∃ ao cap, v = .slice ao l.length cap ∧ l.length ≤ cap ∧ ∀ j x, l[j]? = some x → ∃ g o, ao = some ⟨g, o, none⟩ ∧
  W.cell? ⟨g, o + j * 4, none⟩ = some (.int .i64 x.1) ∧ W.cell? ⟨g, o + j * 4 + 1, none⟩ = some (.string (txt x.2.1)) ∧ W.cell? ⟨g, o + j * 4 + 2, none⟩ = some (.string (txt x.2.2.1)) ∧ W.cell? ⟨g, o + j * 4 + 3, none⟩ = some (.string (txt x.2.2.2))
theorem Sx.below {w w' : World} {v : Value} {l : List StepA} (h : Sx w v l) (hb : Below w.heap.size w w') : Sx w' v l := by
  obtain ⟨ao, cap, e, hcp, hx⟩ := h
  refine ⟨ao, cap, e, hcp, fun j p hj => ?_⟩
  obtain ⟨g, o, e2, h0, h1, h2, h3⟩ := hx j p hj
  have c : ∀ {q : Addr} {u : Value}, w.cell? q = some u → w'.cell? q = some u := fun {q u} h => (hb.cell (World.block_lt_of_cell? w _ h)).trans h
  exact ⟨g, o, e2, c h0, c h1, c h2, c h3⟩
/-- How a step ends. -/
def StepP (pre post : List UInt8) (B b m : Nat) (d : Bool) (st : KV2 × CS2) (A : AnsA) (W : World) (e : Ending) (w' : World) : Prop :=
  ∃ v cb, e = .returned (.agg #[.string (txt A.t), .int .i64 A.n, .bool A.is, .bool A.f, v]) ∧ Kx w' v A.ps ∧ PoG pre post B b m cb d st.1 st.2 w' ∧ Below B W w' ∧ KS W w'
theorem Tryz.infoAns : (Tryz.prog.info? 38).map (fun i => (i.zero, i.size, i.bytes)) = some (some (.agg #[.string ⟨#[]⟩, .int .i64 0, .bool false, .bool false, .slice none 0 0]), 5, 56) := by kernel_rfl
/-- A new set, with these signs. -/
theorem new_set (w w1 : World) (pre post : List UInt8) (d : Bool) (h0 : w1.heap[w.heap.size]? = some (.map #[] 0)) (h1 : w1.heap[w.heap.size + 1]? = some (.map #[] 0)) (h2 : w1.heap[w.heap.size + 2]? = some (.cells #[] 9 (0, 0)))
    (h3 : w1.heap[w.heap.size + 3]? = some (.cells #[.string ⟨#[36, 123]⟩, .string ⟨#[125]⟩, .bool false, .map (some w.heap.size), .map (some (w.heap.size + 1)), .slice (some ⟨w.heap.size + 2, 0, none⟩) 0 0, .string ⟨#[]⟩] 63 (0, 0))) :
    PoG pre post w.heap.size (w.heap.size + 3) w.heap.size (w.heap.size + 1) d [] [] (((w1.setCell ⟨w.heap.size + 3, 0, none⟩ (.string (txt pre))).setCell ⟨w.heap.size + 3, 1, none⟩ (.string (txt post))).setCell ⟨w.heap.size + 3, 2, none⟩ (.bool d)) := by
  have hst : ∀ r, r ≠ w.heap.size + 3 → (((w1.setCell ⟨w.heap.size + 3, 0, none⟩ (.string (txt pre))).setCell ⟨w.heap.size + 3, 1, none⟩ (.string (txt post))).setCell ⟨w.heap.size + 3, 2, none⟩ (.bool d)).heap[r]? = w1.heap[r]? := fun r hr => by
    rw [Below.heap_setCell _ _ _ _ (by exact hr), Below.heap_setCell _ _ _ _ (by exact hr), Below.heap_setCell _ _ _ _ (by exact hr)]
  refine ⟨by omega, by omega, by omega, by omega, .slice (some ⟨w.heap.size + 2, 0, none⟩) 0 0, .slice none 0 0, ?_, ?_, by simp, ⟨[], rfl, ?_, fun x hx => by cases hx⟩, by simp, ?_⟩
  · simp [World.setCell, Array.getElem?_modify, h3]
  · exact mb_new ((hst _ (by omega)).trans h0)
  · exact mb_new ((hst _ (by omega)).trans h1)
  · exact ⟨rfl, .inr ⟨w.heap.size + 2, 0, #[], rfl, by omega, (hst _ (by omega)).trans h2, Nat.le_refl _, by unfold maxLen; omega, rfl, rfl⟩⟩
set_option maxHeartbeats 6400000 in
set_option maxRecDepth 100000 in
theorem script_any (pre post : List UInt8) (d : Bool) (l : List StepA) (va : Value) (σ : Nat → KV2 × CS2) (α : Nat → AnsA) (w : World) (hS : Sx w va l) (h0 : σ 0 = ([], [])) (hl : l.length ≤ 1000000)
    (hst : ∀ i x, l[i]? = some x → ∀ cb W, PoG pre post w.heap.size (w.heap.size + 3) w.heap.size cb d (σ i).1 (σ i).2 W → Below w.heap.size w W → Calls Tryz.prog 30 #[.pointer (some ⟨w.heap.size + 3, 0, none⟩), .agg #[.int .i64 x.1, .string (txt x.2.1), .string (txt x.2.2.1), .string (txt x.2.2.2)]] W (StepP pre post w.heap.size (w.heap.size + 3) w.heap.size d (σ (i + 1)) (α i) W))
    (hend : (σ l.length).1.length ≤ 1000000) (hcl : ∀ k, (cmOf (σ l.length).2 k).length ≤ 1000000) :
    Calls Tryz.prog 14 #[.string (txt pre), .string (txt post), .bool d, va] w fun e w' => ∃ v1 v2, e = .returned (.tuple #[v1, v2]) ∧ Ax w' v1 ((List.range l.length).map α) ∧ Px w' v2 ((σ l.length).1.map (mkP (fun _ => []) (σ l.length).2)) ∧ Below w.heap.size w w' := by
  obtain ⟨i0, hi, hz0, hz1, hz2⟩ := info_parts Tryz.infoStr
  obtain ⟨ip, hpi, hp0, hp1, hp2⟩ := info_parts Tryz.infoProp
  obtain ⟨ia, hai, ha0, ha1, ha2⟩ := info_parts Tryz.infoAns
  obtain ⟨ao, cap, rfl, hcap, hx⟩ := hS
  have HX := Lib.hid hx
  have HST := Lib.hid hst
  obtain ⟨kv, cs, hσ⟩ : ∃ kv cs, σ l.length = (kv, cs) := ⟨_, _, rfl⟩
  rw [hσ] at hend hcl ⊢
  simp only at hend hcl ⊢
  have HSIG := Lib.hid hσ
  have HCL := Lib.hid hcl
  have H0 := Lib.hid h0
  have HEND := Lib.hid hend
  clear hx hst hcl h0 hend hσ
  go_enter Tryz.func14, Tryz.ntmps14
  go_wp2_with fail
  refine (newProps3 w).mono ?_
  rintro e w1 ⟨rfl, k0, k1, k2, k3, hb1, hs1⟩
  have HP := Lib.hid (new_set w w1 pre post d k0 k1 k2 k3)
  have HB2 : Hid (Below w.heap.size w (((w1.setCell ⟨w.heap.size + 3, 0, none⟩ (.string (txt pre))).setCell ⟨w.heap.size + 3, 1, none⟩ (.string (txt post))).setCell ⟨w.heap.size + 3, 2, none⟩ (.bool d))) :=
    ((hb1.setCell (p := ⟨w.heap.size + 3, 0, none⟩) (by show w.heap.size ≤ w.heap.size + 3; omega) _).setCell (p := ⟨w.heap.size + 3, 1, none⟩) (by show w.heap.size ≤ w.heap.size + 3; omega) _).setCell (p := ⟨w.heap.size + 3, 2, none⟩) (by show w.heap.size ≤ w.heap.size + 3; omega) _
  have x0 : w1.cell? ⟨w.heap.size + 3, 0, none⟩ = some (.string ⟨#[36, 123]⟩) := by simp [World.cell?, k3]
  have x1 : w1.cell? ⟨w.heap.size + 3, 1, none⟩ = some (.string ⟨#[125]⟩) := by simp [World.cell?, k3]
  have x2 : w1.cell? ⟨w.heap.size + 3, 2, none⟩ = some (.bool false) := by simp [World.cell?, k3]
  have y0 : w1.frozen? ⟨w.heap.size + 3, 0, none⟩ = false := by simp [World.frozen?, k3]
  have y1 : w1.frozen? ⟨w.heap.size + 3, 1, none⟩ = false := by simp [World.frozen?, k3]
  have y2 : w1.frozen? ⟨w.heap.size + 3, 2, none⟩ = false := by simp [World.frozen?, k3]
  clear k0 k1 k2 k3 hb1 hs1
  go_upto_region 3 with fail
  obtain ⟨W2, hW2⟩ : ∃ W2, ((w1.setCell ⟨w.heap.size + 3, 0, none⟩ (.string (txt pre))).setCell ⟨w.heap.size + 3, 1, none⟩ (.string (txt post))).setCell ⟨w.heap.size + 3, 2, none⟩ (.bool d) = W2 := ⟨_, rfl⟩
  rw [hW2] at HP HB2 ⊢
  clear hW2 x0 x1 x2 y0 y1 y2
  go_wp2
  go_loopg [11, 13, 33] (l.length + 1) (fun gk v11 v13 v33 wr => ∃ (j cb : Nat) (L : List (AnsA × Value)) (ao2 : Option Addr) (cap2 : Nat), v33 = .int .i64 j ∧ v11 = .slice ao2 L.length cap2 ∧ j ≤ l.length ∧ l.length - j < gk ∧ L.length = j ∧ Hid (L.map Prod.fst = (List.range j).map α) ∧
    Hid (wr.ownsRow w.heap.size 38 5 (.slice ao2 L.length cap2) L.length (AEnts L)) ∧ Hid (∀ p ∈ L, Kx wr p.2 p.1.ps) ∧ Hid (PoG pre post w.heap.size (w.heap.size + 3) w.heap.size cb d (σ j).1 (σ j).2 wr) ∧ Hid (Below w.heap.size w wr))
  case atStart => exact ⟨0, w.heap.size + 1, [], none, 0, rfl, rfl, by omega, by omega, rfl, rfl, ⟨rfl, .inl ⟨rfl, rfl⟩⟩, (fun p hp => absurd hp (by simp)), by rw [H0.out]; exact HP.out, HB2.out⟩
  case round =>
    obtain ⟨j, cb, L, ao2, cap2, rfl, rfl, hj, hg, hLj, HL, HW, HTS, HPO, HB⟩ := hrel
    clear HP HB2
    have hbs := HB.out.size
    by_cases hlt : j < l.length
    · obtain ⟨gk, rfl⟩ : ∃ m, gk = m + 1 := ⟨gk - 1, by omega⟩
      have hp := List.getElem?_eq_getElem hlt
      generalize l[j] = x at hp
      obtain ⟨g, o, rfl, h0, h1, h2, h3⟩ := HX.out j x hp
      have c : ∀ {q : Addr} {u : Value}, w.cell? q = some u → wr.cell? q = some u := fun {q u} h => (HB.out.cell (World.block_lt_of_cell? w _ h)).trans h
      have d0 := c h0
      have d1 := c h1
      have d2 := c h2
      have d3 := c h3
      have hal := (Below.refl wr.heap.size wr).alloc (Nat.le_refl _) (.cells #[.int .i64 x.1, .string (txt x.2.1), .string (txt x.2.2.1), .string (txt x.2.2.2)] 33)
      have HBA := Lib.hid (HB.out.alloc hbs (.cells #[.int .i64 x.1, .string (txt x.2.1), .string (txt x.2.2.1), .string (txt x.2.2.2)] 33))
      have HPA := Lib.hid (HPO.out.below hal)
      have HWA := Lib.hid (owns_cut HW.out hal)
      have HTA : Hid (∀ p ∈ L, Kx (wr.alloc (.cells #[.int .i64 x.1, .string (txt x.2.1), .string (txt x.2.2.1), .string (txt x.2.2.2)] 33)) p.2 p.1.ps) := fun p hp => (HTS.out p hp).ks (KS.below hal)
      have CS := Lib.hid (HST.out j x hp cb _ HPA.out HBA.out)
      have n0 : (wr.alloc (.cells #[.int .i64 x.1, .string (txt x.2.1), .string (txt x.2.2.1), .string (txt x.2.2.2)] 33)).heap[wr.heap.size]? = some (.cells #[.int .i64 x.1, .string (txt x.2.1), .string (txt x.2.2.1), .string (txt x.2.2.2)] 33 (0, 0)) := al_new _ _ _ rfl
      have hsA : wr.heap.size < (wr.alloc (.cells #[.int .i64 x.1, .string (txt x.2.1), .string (txt x.2.2.1), .string (txt x.2.2.2)] 33)).heap.size := by simp
      have hsAB := HBA.out.size
      obtain ⟨x0, x1, x2, x3⟩ := x
      clear hp h0 h1 h2 h3 hal HB HPO HW HTS c
      go_upto_region 7 with fail
      clear d0 d1 d2 d3
      generalize wr.alloc (.cells #[.int .i64 x0, .string (txt x1), .string (txt x2), .string (txt x3)] 33) = WA at *
      have d0 : WA.cell? ⟨wr.heap.size, 0, none⟩ = some (.int .i64 x0) := by simp [World.cell?, n0]
      have d1 : WA.cell? ⟨wr.heap.size, 1, none⟩ = some (.string (txt x1)) := by simp [World.cell?, n0]
      have d2 : WA.cell? ⟨wr.heap.size, 2, none⟩ = some (.string (txt x2)) := by simp [World.cell?, n0]
      have d3 : WA.cell? ⟨wr.heap.size, 3, none⟩ = some (.string (txt x3)) := by simp [World.cell?, n0]
      clear n0
      go_wp2_with fail
      refine CS.out.mono ?_
      rintro e w3 ⟨v, cb3, rfl, hkx, hpg, hb3, hks⟩
      obtain ⟨vo, vcap, rfl⟩ := hkx.slice
      have HKX := Lib.hid hkx
      have HPG := Lib.hid hpg
      have HB3 := Lib.hid (HBA.out.trans hb3)
      have hs3 := HB3.out.size
      have HW3 : Hid (w3.ownsRow w.heap.size 38 5 (.slice ao2 L.length cap2) L.length (AEnts L)) := owns_keep HWA.out fun g hg => by
        rcases HWA.out.2 with ⟨e, _⟩ | ⟨g2, c2, cur, e, _, hh, _⟩
        · rw [e] at hg; cases hg
        · rw [e] at hg
          have : g2 = g := by simpa [Value.ownBlock] using hg
          subst this
          exact hks g2 _ _ _ hh (by decide) (by decide)
      have HT3 : Hid (∀ p ∈ L, Kx w3 p.2 p.1.ps) := fun p hp => (HTA.out p hp).ks hks
      clear hkx hpg hb3 hks HPA HBA HWA HTA CS
      have HWJ : Hid (w3.ownsRow w.heap.size 38 5 (.slice ao2 j cap2) j (AEnts L)) := by
        show World.ownsRow _ _ _ _ _ _ _
        have h := HW3.out
        rw [hLj] at h
        exact h
      go_wp2_with (at_builtin; refine wpList_appk rfl _ _ 28 38 rfl 5 ia _ 56 Tryz.underlying28 hai ha0 ha1 ha2 rfl (by decide) w.heap.size _ j _ rfl HWJ.out #[.string (txt (α j).t), .int .i64 (α j).n, .bool (α j).is, .bool (α j).f, .slice vo (α j).ps.length vcap] rfl (by simp; exact ⟨rfl, rfl, rfl, rfl, rfl⟩) _ rfl rfl (by omega) (by omega) hs3 ?_)
      intro ao4 cap4 w4 hown4 hb4 hk4
      have hn34 : NKs w3 w4 := NKs.own (.inr rfl) HWJ.out hk4
      have hks34 : ∀ p, (p ∈ L ∨ p = (α j, Value.slice vo (α j).ps.length vcap)) → Kx w4 p.2 p.1.ps := by
        intro p hp
        have h3 : Kx w3 p.2 p.1.ps := by
          rcases hp with hp | rfl
          · exact HT3.out p hp
          · exact HKX.out
        obtain ⟨pao, pcap, e, hc, hx⟩ := h3
        refine ⟨pao, pcap, e, hc, fun i y hi => ?_⟩
        obtain ⟨g, o, cur, fz, e2, hg, r⟩ := hx i y hi
        refine ⟨g, o, cur, fz, e2, ?_, r⟩
        rw [hk4 g (lt_of_some hg) (own_ne_type HWJ.out hg (by decide)), hg]
      have HL4 : Hid ((L ++ [(α j, Value.slice vo (α j).ps.length vcap)]).map Prod.fst = (List.range (j + 1)).map α) := by
        show _ = _
        rw [List.map_append, HL.out, List.range_succ, List.map_append]; rfl
      have HW4 : Hid (w4.ownsRow w.heap.size 38 5 (.slice ao4 (L ++ [(α j, Value.slice vo (α j).ps.length vcap)]).length cap4) (L ++ [(α j, Value.slice vo (α j).ps.length vcap)]).length (AEnts (L ++ [(α j, Value.slice vo (α j).ps.length vcap)]))) := by
        have e1 : (L ++ [(α j, Value.slice vo (α j).ps.length vcap)]).length = j + 1 := by simp [hLj]
        have e2 : AEnts (L ++ [(α j, Value.slice vo (α j).ps.length vcap)]) = AEnts L ++ ac5 (α j, Value.slice vo (α j).ps.length vcap) := by simp [AEnts]
        show World.ownsRow _ _ _ _ _ _ _
        rw [e1, e2]
        exact hown4
      have HT4 : Hid (∀ p ∈ L ++ [(α j, Value.slice vo (α j).ps.length vcap)], Kx w4 p.2 p.1.ps) := fun p hp => hks34 p (by
        rcases List.mem_append.1 hp with hp | hp
        · exact .inl hp
        · exact .inr (List.mem_singleton.1 hp))
      have HP4 := Lib.hid (HPG.out.nks hn34)
      have HB4 := Lib.hid (HB3.out.trans hb4)
      clear hown4 hb4 hk4 hn34 hks34 HW3 HWJ HT3 HPG HB3 HKX
      go_wp2
      go_roundg gk
      case rel => exact ⟨j + 1, cb3, L ++ [(α j, Value.slice vo (α j).ps.length vcap)], ao4, cap4, by go_num, by rw [List.length_append, hLj]; rfl, by omega, by omega, by rw [List.length_append]; simp; omega, HL4.out, HW4.out, HT4.out, HP4.out, HB4.out⟩
      case measure => omega
    · obtain rfl : j = l.length := by omega
      have HAX : Hid (Ax wr (.slice ao2 L.length cap2) ((List.range l.length).map α)) := by
        show Ax _ _ _
        rw [← HL.out]; exact ax_own HW.out HTS.out
      obtain ⟨V1, hV1⟩ : ∃ V, Value.slice ao2 L.length cap2 = V := ⟨_, rfl⟩
      rw [hV1] at HAX ⊢
      clear hV1
      have hkl := HEND.out
      have hcm := HCL.out
      have hpo := HPO.out
      rw [HSIG.out] at hpo
      simp only at hpo
      have HCL2 := Lib.hid hcm
      have HPO2 := Lib.hid hpo
      have HB5 := Lib.hid HB.out
      have hs5 := HB.out.size
      clear hcm hpo HPO HB HW HTS HL HCL HEND HX HST H0 HSIG
      rename World => w5
      have CM := Lib.hid (map_anyG pre post w.heap.size (w.heap.size + 3) w.heap.size cb d kv cs w5 HPO2.out)
      go_wp2_with fail
      refine CM.out.mono ?_
      rintro e w6 ⟨mx, acc, rfl, hmx, hM1, hperm, hba⟩
      have HPa := Lib.hid (HPO2.out.below hba)
      have HMa := Lib.hid hM1
      have HBa := Lib.hid hba
      have HPERM := Lib.hid hperm
      clear hM1 hba hperm CM
      go_wp2_with fail
      refine (keys_anyG pre post w.heap.size (w.heap.size + 3) w.heap.size cb d kv cs w6 HPa.out hkl).mono ?_
      rintro e w7 ⟨gk0, rfl, hgk, hgs, hbb⟩
      have HPb := Lib.hid (HPa.out.below hbb)
      have HMb := Lib.hid (HMa.out.nk (NK.below hbb))
      have HBb := Lib.hid (HBa.out.trans (hbb.mono HBa.out.size))
      have HKb := Lib.hid hgk
      clear hgk hbb HPa HMa HBa
      rw [List.length_map]
      go_wp2
      go_loopg [15, 17, 49] (kv.length + 1) (fun gk v15 v17 v49 wr => ∃ (j : Nat) (L : List (PropA × Value)) (ao : Option Addr) (cap : Nat), v49 = .int .i64 j ∧ v15 = .slice ao L.length cap ∧ j ≤ kv.length ∧ kv.length - j < gk ∧ L.length ≤ j ∧ Hid (L.map Prod.fst = (kv.take j).map (mkP (fun _ => []) cs)) ∧
        Hid (wr.ownsRow w5.heap.size 36 4 (.slice ao L.length cap) L.length (Ents L)) ∧ Hid (∀ p ∈ L, Ts wr p.2 p.1.c) ∧ Hid (PoG pre post w.heap.size (w.heap.size + 3) w.heap.size cb d kv cs wr) ∧ Hid (MB mx (eV acc) wr) ∧ Hid (wr.heap[gk0]? = some (.cells (strsV (kv.map Prod.fst)).toArray 9 (0, 0))) ∧ Hid (Below w5.heap.size w5 wr))
      case atStart => exact ⟨0, [], none, 0, rfl, rfl, by omega, by omega, by simp, rfl, ⟨rfl, .inl ⟨rfl, rfl⟩⟩, (fun p hp => absurd hp (by simp)), HPb.out, HMb.out, HKb.out, HBb.out⟩
      case round =>
        obtain ⟨j, L, ao, cap, rfl, rfl, hj, hg, hLj, HL, HW, HTS, HP, HM, HK, HB⟩ := hrel
        clear HPb HMb HKb HBb
        by_cases hlt : j < kv.length
        · obtain ⟨gk, rfl⟩ : ∃ m, gk = m + 1 := ⟨gk - 1, by omega⟩
          have hp := List.getElem?_eq_getElem hlt
          have htk := List.take_succ_eq_append_getElem hlt
          generalize kv[j] = p at hp htk
          have hmem := List.mem_of_getElem? hp
          have ck : wr.cell? ⟨gk0, j, none⟩ = some (.string (txt p.1)) := by
            simp only [World.cell?, HK.out]
            simp [strsV, hp]
          have HTK : Hid ((L.map Prod.fst) ++ [mkP (fun _ => []) cs p] = (kv.take (j + 1)).map (mkP (fun _ => []) cs)) := by
            show _ = _
            rw [HL.out, htk, List.map_append]; rfl
          have hpa : (p.1, p.2) ∈ acc := HPERM.out.mem_iff.2 hmem
          have hand : (acc.map Prod.fst).Nodup := (HPERM.out.map Prod.fst).nodup_iff.2 (by obtain ⟨_, _, _, _, vk, vc, _, _, hn, _⟩ := HP.out; exact hn)
          have HLKW : Hid (∀ W, MB mx (eV acc) W → (Instr.lookup 60 (.map (some mx)) (.string (txt p.1)) false).run Tryz.prog W = .ok (.string (txt p.2)) W) := fun W hW =>
            (lookw_hit (P := Tryz.prog) 60 9 9 mx (sV acc) p.1 (.string (txt p.2)) Tryz.underlying60 Tryz.underlying9 (by rw [kvW_sV]; exact hW) (by rw [sV_fst]; exact hand) (List.mem_map.2 ⟨(p.1, p.2), hpa, rfl⟩)).2
          have HCP := Lib.hid (HCL2.out p.1)
          clear hp htk hmem hpa hand HL
          have hs11 := HB.out.size
          go_upto_region 14 with fail
          have hlk1 := HLKW.out wr.drew (HM.out.nk (NK.below (Below.refl _ _).drew))
          have hlk2 := HLKW.out (wr.drew.alloc (.cells #[] 9)) (HM.out.nk (NK.below ((Below.refl _ wr).drew.alloc (Nat.le_refl _) _)))
          have hlk3 := HLKW.out (wr.alloc (.cells #[] 9)).drew (HM.out.nk (NK.below ((Below.refl _ wr).alloc (Nat.le_refl _) (.cells #[] 9)).drew))
          have HOE : Hid ((wr.drew.alloc (.cells #[] 9)).ownsRow w5.heap.size 9 1 (.slice (some ⟨wr.heap.size, 0, none⟩) 0 0) 0 []) :=
            ⟨rfl, .inr ⟨wr.heap.size, 0, #[], rfl, hs11, heap_alloc_new wr.drew _, Nat.le_refl _, by unfold maxLen; omega, rfl, rfl⟩⟩
          have HBA : Hid (Below w5.heap.size w5 (wr.drew.alloc (.cells #[] 9))) := HB.out.drew.alloc hs11 _
          have hbs2 : w5.heap.size ≤ (wr.drew.alloc (.cells #[] 9)).heap.size := HBA.out.size
          have CC := Lib.hid fun W (hW : Below wr.heap.size wr W) => getc_anyG pre post w.heap.size (w.heap.size + 3) w.heap.size cb d kv cs p.1 W (HP.out.below hW)
          obtain ⟨CO, hCO⟩ : ∃ c, cmOf cs p.1 = c := ⟨_, rfl⟩
          rw [hCO] at CC HCP
          have HCO := Lib.hid hCO
          clear hCO
          go_region_law (first
            | (refine step_append_free _ rfl (.tmp 58) (.tmp 61) 34 rfl w5.heap.size 9 i0 (.string ⟨#[]⟩) 1 16 Tryz.underlying34 hi hz0 hz1 hz2 rfl (by decide) (.slice (some ⟨wr.heap.size, 0, none⟩) 0 0) 0 [] (by simp [Act.eval]) HOE.out v5 CO.length (strsV CO) (by simp [Act.eval]) (ts_rowAt hv5 hts6) (by have := HCP.out; omega) (by have := HCP.out; omega) hbs2 ?_
               intro ga cp2 w6 hown6 hb6 hk6 hs6
               have hk61 : ∀ r, r < wr.heap.size → w6.heap[r]? = wr.heap[r]? := fun r hr => (hk6 r (by simp; omega) (by simp [Value.ownBlock]; omega)).trans (al_old wr.drew _ r hr)
               have hw6 : w6.ownsRow w5.heap.size 36 4 (.slice ao L.length cap) L.length (Ents L) := owns_keep HW.out fun g hg => hk61 g (HW.out.lt g hg).2
               have hbs6 : w5.heap.size ≤ w6.heap.size := Nat.le_trans hbs2 hs6
               have hlk6 := HLKW.out w6 (HM.out.nk fun r o hr _ => (hk61 r (lt_of_some hr)).trans hr))
            | (refine step_append_free _ rfl (.tmp 53) (.tmp 64) 29 rfl w5.heap.size 36 ip _ 4 72 Tryz.underlying29 hpi hp0 hp1 hp2 rfl (by decide) (.slice ao L.length cap) L.length (Ents L) (by simp [Act.eval]) (hw6.alloc _) (.slice (some ⟨w6.heap.size, 0, none⟩) 1 1) 1 _ (by simp [Act.eval]) (rowAt_new w6 _ _ _ _ rfl) (by omega) (by omega) (by simp; omega) ?_
               intro ga7 cp7 w8 hown8 hb8 hk8 hs8)
            | (go_simp; go_at_call 33; refine (CC.out _ (by first | exact (Below.refl _ _).drew | exact (Below.refl _ wr).drew.alloc (Nat.le_refl _) _ | exact ((Below.refl _ wr).alloc (Nat.le_refl _) _).drew)).mono ?_; rintro e w5 ⟨⟨v5, rfl, hv5, hts5⟩, hw5⟩; obtain rfl := hw5.symm
               have hts6 : Ts (wr.drew.alloc (.cells #[] 9)) v5 CO := by first | exact hts5 | exact hts5.keep fun g x fz hg => al_old _ _ _ (lt_of_some hg)))
          all_goals
            have hown6' : w6.ownsRow w5.heap.size 9 1 (.slice ga CO.length cp2) CO.length (strsV CO) := by simpa using hown6
            have hn16 : NK wr w6 := fun r o hr _ => (hk61 r (lt_of_some hr)).trans hr
            have hn6a := NK.below ((Below.refl _ w6).alloc (Nat.le_refl _) (.cells #[.string (txt p.1), .string (txt p.2), .string ⟨#[]⟩, .slice ga CO.length cp2] 36))
            have hn68 : NK w6 w8 := hn6a.trans (NK.own (hw6.alloc _) (fun k hk hne => hk8 k (by simpa using hk) hne))
            have hn18 := hn16.trans hn68
            have HP8 := Lib.hid (HP.out.nks (NKs.of hn18))
            have HM8 := Lib.hid (HM.out.nk hn18)
            have HK8 : Hid (w8.heap[gk0]? = some (.cells (strsV (kv.map Prod.fst)).toArray 9 (0, 0))) := hn18.cells HK.out (by decide)
            have HB8 := Lib.hid (((HBA.out.trans hb6).alloc hbs6 (.cells #[.string (txt p.1), .string (txt p.2), .string ⟨#[]⟩, .slice ga CO.length cp2] 36)).trans hb8)
            have HW8 : Hid (w8.ownsRow w5.heap.size 36 4 (.slice ga7 (L.length + 1) cp7) (L ++ [(mkP (fun _ => []) cs p, Value.slice ga CO.length cp2)]).length (Ents (L ++ [(mkP (fun _ => []) cs p, Value.slice ga CO.length cp2)]))) := by
              have e1 : (L ++ [(mkP (fun _ => []) cs p, Value.slice ga CO.length cp2)]).length = L.length + 1 := by simp
              have e2 : Ents (L ++ [(mkP (fun _ => []) cs p, Value.slice ga CO.length cp2)]) = Ents L ++ pc4 (mkP (fun _ => []) cs p, Value.slice ga CO.length cp2) := by simp [Ents]
              show World.ownsRow _ _ _ _ _ _ _
              rw [e1, e2]
              exact hown8
            have HTS8 : Hid (∀ q ∈ L ++ [(mkP (fun _ => []) cs p, Value.slice ga CO.length cp2)], Ts w8 q.2 q.1.c) := by
              show ∀ _ _, _
              intro q hq
              rcases List.mem_append.1 hq with hq | hq
              · exact (HTS.out q hq).nk hn18
              · simp at hq
                subst hq
                have e : (mkP (fun _ => []) cs p).c = CO := HCO.out
                show Ts w8 _ (mkP (fun _ => []) cs p).c
                rw [e]
                exact (ts_own hown6').nk hn68
            clear hown6 hown6' hb6 hk6 hs6 hk61 hw6 hlk6 hown8 hb8 hk8 hs8 hn16 hn6a hn68 hn18 hts6 hts5 hv5
            go_wp2
            go_roundg gk
            case rel => exact ⟨j + 1, L ++ [(mkP (fun _ => []) cs p, Value.slice ga CO.length cp2)], ga7, cp7, by go_num, by rw [List.length_append]; rfl, by omega, by omega, by rw [List.length_append]; simp; omega, by show _ = _; rw [List.map_append]; exact HTK.out, by have h9 := HW8.out; rw [List.length_append] at h9 ⊢; exact h9, HTS8.out, HP8.out, HM8.out, HK8.out, HB8.out⟩
            case measure => omega
        · have HLF : Hid (L.map Prod.fst = kv.map (mkP (fun _ => []) cs)) := by
            show _ = _
            rw [HL.out, List.take_of_length_le (by omega)]
          have HPX : Hid (Px wr (.slice ao L.length cap) (kv.map (mkP (fun _ => []) cs))) := by
            show Px _ _ _
            rw [← HLF.out]; exact px_own HW.out HTS.out
          go_wp2
          go_ret2
          exact ⟨V1, _, rfl, HAX.out.below HB.out, HPX.out, HB5.out.trans (HB.out.mono hs5)⟩

theorem rec_step (q : Addr) (w : World) :
    CallsD Tryz.prog 41 #[.pointer (some q)] .returning w fun e u' w' => e = .returned (.tuple #[]) ∧ u' = .returning ∧ w' = w := by
  refine callsD_of_wpS Tryz.func41 rfl fun c₀ cs hu => ?_
  apply wpS_seq
  apply wpS_region
  simp [wpOpsS, go_sem, recoverD, hu, Tryz.ntmps41, Exit.thenS]
  refine wpS_cond (t := false) (by simp [Act.eval, Array.replicate]) ?_
  simp only [Bool.false_eq_true, if_false]
  refine wpS_of_wp (wp_skip ?_)
  cases c₀
  simp_all [bodyPostS, results, Tryz.results41]
theorem PoG.ans {pre post : List UInt8} {B b m cb : Nat} {d : Bool} {kv : KV2} {cs : CS2} {W W' : World} {q : Nat} {x : Array Value} {fz : Nat × Nat} (h : PoG pre post B b m cb d kv cs W) (hq : W.heap[q]? = some (.cells x 38 fz)) (hk : ∀ r, r ≠ q → W'.heap[r]? = W.heap[r]?) : PoG pre post B b m cb d kv cs W' :=
  h.nks fun r o hr _ hm => (hk r (by
    rintro rfl
    rw [hr] at hq
    exact hm _ _ (Option.some.inj hq))).trans hr
/-- The world in which a step's switch begins. -/
def stW (x : StepA) (W : World) : World := (W.alloc (.cells #[.int .i64 x.1, .string (txt x.2.1), .string (txt x.2.2.1), .string (txt x.2.2.2)] 33)).alloc (.cells #[.string ⟨#[]⟩, .int .i64 0, .bool false, .bool false, .slice none 0 0] 38)
theorem stW_below (x : StepA) (W : World) : Below W.heap.size W (stW x W) := by
  have b1 := (Below.refl W.heap.size W).alloc (Nat.le_refl _) (.cells #[.int .i64 x.1, .string (txt x.2.1), .string (txt x.2.2.1), .string (txt x.2.2.2)] 33)
  exact b1.alloc b1.size _
theorem stW_s (x : StepA) (W : World) : (stW x W).heap[W.heap.size]? = some (.cells #[.int .i64 x.1, .string (txt x.2.1), .string (txt x.2.2.1), .string (txt x.2.2.2)] 33 (0, 0)) := by
  unfold stW
  rw [al_old _ _ _ (by simp), al_new _ _ _ rfl]
theorem stW_a (x : StepA) (W : World) : (stW x W).heap[W.heap.size + 1]? = some (.cells #[.string ⟨#[]⟩, .int .i64 0, .bool false, .bool false, .slice none 0 0] 38 (0, 0)) := by
  unfold stW
  rw [al_new _ _ _ (by simp)]
theorem ans_set (w1 : World) (q : Nat) (T : TypeId) (x0 x1 x2 x3 x4 y0 y1 y2 y3 y4 : Value) (h : w1.heap[q]? = some (.cells #[y0, y1, y2, y3, y4] T (0, 0))) :
    (((((w1.setCell ⟨q, 0, none⟩ x0).setCell ⟨q, 1, none⟩ x1).setCell ⟨q, 2, none⟩ x2).setCell ⟨q, 3, none⟩ x3).setCell ⟨q, 4, none⟩ x4).heap[q]? = some (.cells #[x0, x1, x2, x3, x4] T (0, 0)) ∧
      (∀ r, r ≠ q → (((((w1.setCell ⟨q, 0, none⟩ x0).setCell ⟨q, 1, none⟩ x1).setCell ⟨q, 2, none⟩ x2).setCell ⟨q, 3, none⟩ x3).setCell ⟨q, 4, none⟩ x4).heap[r]? = w1.heap[r]?) := by
  refine ⟨by simp [World.setCell, Array.getElem?_modify, h], fun r hr => ?_⟩
  rw [Below.heap_setCell _ _ _ _ (by exact hr), Below.heap_setCell _ _ _ _ (by exact hr), Below.heap_setCell _ _ _ _ (by exact hr), Below.heap_setCell _ _ _ _ (by exact hr), Below.heap_setCell _ _ _ _ (by exact hr)]
theorem ans_below {B : Nat} {W w1 : World} (q : Nat) (x0 x1 x2 x3 x4 : Value) (h : Below B W w1) (hq : B ≤ q) :
    Below B W (((((w1.setCell ⟨q, 0, none⟩ x0).setCell ⟨q, 1, none⟩ x1).setCell ⟨q, 2, none⟩ x2).setCell ⟨q, 3, none⟩ x3).setCell ⟨q, 4, none⟩ x4) :=
  ((((h.setCell (p := ⟨q, 0, none⟩) hq x0).setCell (p := ⟨q, 1, none⟩) hq x1).setCell (p := ⟨q, 2, none⟩) hq x2).setCell (p := ⟨q, 3, none⟩) hq x3).setCell (p := ⟨q, 4, none⟩) hq x4
/-- How Set ends. -/
def SetP (pre post : List UInt8) (B b m cb : Nat) (d : Bool) (kv : KV2) (cs : CS2) (prev : List UInt8) (ok : Bool) (W : World) (e : Ending) (w' : World) : Prop :=
  e = .returned (.tuple #[.string (txt prev), .bool ok, .nilIface]) ∧ PoG pre post B b m cb d kv cs w' ∧ Below B W w' ∧ KS W w'
set_option maxHeartbeats 3200000 in
set_option maxRecDepth 100000 in
theorem step_set (pre post : List UInt8) (B b m cb : Nat) (d : Bool) (kv kv2 : KV2) (cs : CS2) (key val tx prev : List UInt8) (ok : Bool) (W : World) (h : PoG pre post B b m cb d kv cs W) (hB : B ≤ W.heap.size)
    (C : ∀ W', PoG pre post B b m cb d kv cs W' → B ≤ W'.heap.size → Calls Tryz.prog 42 #[.pointer (some ⟨b, 0, none⟩), .string (txt key), .string (txt val)] W' (SetP pre post B b m cb d kv2 cs prev ok W')) :
    Calls Tryz.prog 30 #[.pointer (some ⟨b, 0, none⟩), .agg #[.int .i64 0, .string (txt key), .string (txt val), .string (txt tx)]] W (StepP pre post B b m d (kv2, cs) ⟨prev, 0, ok, false, []⟩ W) := by
  have hmf : ∀ (fn : Fn) (first cap : Array Value) (w : World), (Instr.makeFunc fn first cap).run Tryz.prog w = .ok (.func fn first cap) w := fun _ _ _ _ => by rfl
  have hb2 := stW_below (0, key, val, tx) W
  have C2 := Lib.hid (C (stW (0, key, val, tx) W) (h.below hb2) (Nat.le_trans hB hb2.size))
  have HS := Lib.hid (stW_s (0, key, val, tx) W)
  have HA := Lib.hid (stW_a (0, key, val, tx) W)
  have HB2 := Lib.hid hb2
  clear hb2 C h
  obtain ⟨Q, hQ⟩ : ∃ Q, StepP pre post B b m d (kv2, cs) ⟨prev, 0, ok, false, []⟩ W = Q := ⟨_, rfl⟩
  rw [hQ]
  have HQ : Hid (∀ v W', PoG pre post B b m cb d kv2 cs W' → Below B W W' → KS W W' → Kx W' v [] → Q (.returned (.agg #[.string (txt prev), .int .i64 0, .bool ok, .bool false, v])) W') := by
    show ∀ _ _, _ → _ → _ → _ → _
    intro v W' h1 h2 h3 h4
    rw [← hQ]
    exact ⟨v, cb, rfl, h4, h1, h2, h3⟩
  clear hQ
  go_enter_defers Tryz.func30, Tryz.ntmps30
  go_wp2_with fail
  refine C2.out.mono ?_
  rintro e w1 ⟨rfl, hp1, hb1, hk1⟩

  have ha1 : w1.heap[W.heap.size + 1]? = some (.cells #[.string ⟨#[]⟩, .int .i64 0, .bool false, .bool false, .slice none 0 0] 38 (0, 0)) := (hk1 _ _ _ _ HA.out (by decide) (by decide)).trans HA.out
  have HA1 := Lib.hid ha1
  have HP1 := Lib.hid hp1
  have HB1 := Lib.hid hb1
  have HK1 := Lib.hid hk1
  have e0 : w1.cell? ⟨W.heap.size + 1, 0, none⟩ = some (.string ⟨#[]⟩) := by simp [World.cell?, ha1]
  have e1 : w1.cell? ⟨W.heap.size + 1, 1, none⟩ = some (.int .i64 0) := by simp [World.cell?, ha1]
  have e2 : w1.cell? ⟨W.heap.size + 1, 2, none⟩ = some (.bool false) := by simp [World.cell?, ha1]
  have e3 : w1.cell? ⟨W.heap.size + 1, 3, none⟩ = some (.bool false) := by simp [World.cell?, ha1]
  have e4 : w1.cell? ⟨W.heap.size + 1, 4, none⟩ = some (.slice none 0 0) := by simp [World.cell?, ha1]
  have f0 : w1.frozen? ⟨W.heap.size + 1, 0, none⟩ = false := by simp [World.frozen?, ha1]
  have f1 : w1.frozen? ⟨W.heap.size + 1, 1, none⟩ = false := by simp [World.frozen?, ha1]
  have f2 : w1.frozen? ⟨W.heap.size + 1, 2, none⟩ = false := by simp [World.frozen?, ha1]
  have f3 : w1.frozen? ⟨W.heap.size + 1, 3, none⟩ = false := by simp [World.frozen?, ha1]
  have f4 : w1.frozen? ⟨W.heap.size + 1, 4, none⟩ = false := by simp [World.frozen?, ha1]
  clear hp1 hb1 hk1 ha1
  go_wp2_with fail
  obtain ⟨hfa, hfo⟩ := ans_set w1 (W.heap.size + 1) 38 (.string (txt prev)) (.int .i64 0) (.bool ok) (.bool false) (.slice none 0 0) _ _ _ _ _ HA1.out
  have hfb := ans_below (W.heap.size + 1) (.string (txt prev)) (.int .i64 0) (.bool ok) (.bool false) (.slice none 0 0) ((HB2.out.mono hB).trans HB1.out) (show B ≤ W.heap.size + 1 by omega)
  obtain ⟨wf, hwf⟩ : ∃ wf, ((((w1.setCell ⟨W.heap.size + 1, 0, none⟩ (.string (txt prev))).setCell ⟨W.heap.size + 1, 1, none⟩ (.int .i64 0)).setCell ⟨W.heap.size + 1, 2, none⟩ (.bool ok)).setCell ⟨W.heap.size + 1, 3, none⟩ (.bool false)).setCell ⟨W.heap.size + 1, 4, none⟩ (.slice none 0 0) = wf := ⟨_, rfl⟩
  rw [hwf] at hfa hfo hfb ⊢
  have d0 : wf.cell? ⟨W.heap.size + 1, 0, none⟩ = some (.string (txt prev)) := by simp [World.cell?, hfa]
  have d1 : wf.cell? ⟨W.heap.size + 1, 1, none⟩ = some (.int .i64 0) := by simp [World.cell?, hfa]
  have d2 : wf.cell? ⟨W.heap.size + 1, 2, none⟩ = some (.bool ok) := by simp [World.cell?, hfa]
  have d3 : wf.cell? ⟨W.heap.size + 1, 3, none⟩ = some (.bool false) := by simp [World.cell?, hfa]
  have d4 : wf.cell? ⟨W.heap.size + 1, 4, none⟩ = some (.slice none 0 0) := by simp [World.cell?, hfa]
  have hks : KS W wf := fun r x T fz hr hT hU => by
    have hrl := lt_of_some hr
    have hr2 : (stW (0, key, val, tx) W).heap[r]? = W.heap[r]? := HB2.out.block r hrl
    rw [hfo r (by omega), HK1.out r x T fz (hr2.trans hr) hT hU, hr2]
  have HFIN := Lib.hid (HQ.out (.slice none 0 0) wf (HP1.out.ans HA1.out hfo) hfb hks (kx_nil _))
  clear hwf hfa hfo hfb hks
  refine leaves_cons (f := 41) (args := #[.pointer (some ⟨W.heap.size + 1, 0, none⟩)]) (by simp) (by simp [go_sem]) ?_
  refine (rec_step ⟨W.heap.size + 1, 0, none⟩ _).mono ?_
  rintro e u' w'' ⟨rfl, rfl, rfl⟩
  simp [Leaves, settle, results, Tryz.results30, go_sem, d0, d1, d2, d3, d4]
  exact HFIN.out
set_option maxHeartbeats 3200000 in
set_option maxRecDepth 100000 in
theorem step_get (pre post : List UInt8) (B b m cb : Nat) (d : Bool) (kv : KV2) (cs : CS2) (key val tx r : List UInt8) (ok : Bool) (W : World) (h : PoG pre post B b m cb d kv cs W) (hB : B ≤ W.heap.size)
    (C : ∀ W', PoG pre post B b m cb d kv cs W' → B ≤ W'.heap.size → Calls Tryz.prog 43 #[.pointer (some ⟨b, 0, none⟩), .string (txt key)] W' fun e w' => e = .returned (.tuple #[.string (txt r), .bool ok]) ∧ Below W'.heap.size W' w') :
    Calls Tryz.prog 30 #[.pointer (some ⟨b, 0, none⟩), .agg #[.int .i64 1, .string (txt key), .string (txt val), .string (txt tx)]] W (StepP pre post B b m d (kv, cs) ⟨r, 0, ok, false, []⟩ W) := by
  have hmf : ∀ (fn : Fn) (first cap : Array Value) (w : World), (Instr.makeFunc fn first cap).run Tryz.prog w = .ok (.func fn first cap) w := fun _ _ _ _ => by rfl
  have hb2 := stW_below (1, key, val, tx) W
  have C2 := Lib.hid (C (stW (1, key, val, tx) W) (h.below hb2) (Nat.le_trans hB hb2.size))
  have HS := Lib.hid (stW_s (1, key, val, tx) W)
  have HA := Lib.hid (stW_a (1, key, val, tx) W)
  have HB2 := Lib.hid hb2
  have HH := Lib.hid h
  clear hb2 C h
  obtain ⟨Q, hQ⟩ : ∃ Q, StepP pre post B b m d (kv, cs) ⟨r, 0, ok, false, []⟩ W = Q := ⟨_, rfl⟩
  rw [hQ]
  have HQ : Hid (∀ v W', PoG pre post B b m cb d kv cs W' → Below B W W' → KS W W' → Kx W' v [] → Q (.returned (.agg #[.string (txt r), .int .i64 0, .bool ok, .bool false, v])) W') := by
    show ∀ _ _, _ → _ → _ → _ → _
    intro v W' h1 h2 h3 h4
    rw [← hQ]
    exact ⟨v, cb, rfl, h4, h1, h2, h3⟩
  clear hQ
  go_enter_defers Tryz.func30, Tryz.ntmps30
  go_wp2_with fail
  refine C2.out.mono ?_
  rintro e w1 ⟨rfl, hbg⟩
  have hp1 := (HH.out.below HB2.out).below hbg
  have hb1 : Below B (stW (1, key, val, tx) W) w1 := hbg.mono (Nat.le_trans hB HB2.out.size)
  have hk1 : KS (stW (1, key, val, tx) W) w1 := KS.below hbg
  have ha1 : w1.heap[W.heap.size + 1]? = some (.cells #[.string ⟨#[]⟩, .int .i64 0, .bool false, .bool false, .slice none 0 0] 38 (0, 0)) := (hk1 _ _ _ _ HA.out (by decide) (by decide)).trans HA.out
  have HA1 := Lib.hid ha1
  have HP1 := Lib.hid hp1
  have HB1 := Lib.hid hb1
  have HK1 := Lib.hid hk1
  have e0 : w1.cell? ⟨W.heap.size + 1, 0, none⟩ = some (.string ⟨#[]⟩) := by simp [World.cell?, ha1]
  have e1 : w1.cell? ⟨W.heap.size + 1, 1, none⟩ = some (.int .i64 0) := by simp [World.cell?, ha1]
  have e2 : w1.cell? ⟨W.heap.size + 1, 2, none⟩ = some (.bool false) := by simp [World.cell?, ha1]
  have e3 : w1.cell? ⟨W.heap.size + 1, 3, none⟩ = some (.bool false) := by simp [World.cell?, ha1]
  have e4 : w1.cell? ⟨W.heap.size + 1, 4, none⟩ = some (.slice none 0 0) := by simp [World.cell?, ha1]
  have f0 : w1.frozen? ⟨W.heap.size + 1, 0, none⟩ = false := by simp [World.frozen?, ha1]
  have f1 : w1.frozen? ⟨W.heap.size + 1, 1, none⟩ = false := by simp [World.frozen?, ha1]
  have f2 : w1.frozen? ⟨W.heap.size + 1, 2, none⟩ = false := by simp [World.frozen?, ha1]
  have f3 : w1.frozen? ⟨W.heap.size + 1, 3, none⟩ = false := by simp [World.frozen?, ha1]
  have f4 : w1.frozen? ⟨W.heap.size + 1, 4, none⟩ = false := by simp [World.frozen?, ha1]
  clear hp1 hb1 hk1 ha1
  go_wp2_with fail
  obtain ⟨hfa, hfo⟩ := ans_set w1 (W.heap.size + 1) 38 (.string (txt r)) (.int .i64 0) (.bool ok) (.bool false) (.slice none 0 0) _ _ _ _ _ HA1.out
  have hfb := ans_below (W.heap.size + 1) (.string (txt r)) (.int .i64 0) (.bool ok) (.bool false) (.slice none 0 0) ((HB2.out.mono hB).trans HB1.out) (show B ≤ W.heap.size + 1 by omega)
  obtain ⟨wf, hwf⟩ : ∃ wf, ((((w1.setCell ⟨W.heap.size + 1, 0, none⟩ (.string (txt r))).setCell ⟨W.heap.size + 1, 1, none⟩ (.int .i64 0)).setCell ⟨W.heap.size + 1, 2, none⟩ (.bool ok)).setCell ⟨W.heap.size + 1, 3, none⟩ (.bool false)).setCell ⟨W.heap.size + 1, 4, none⟩ (.slice none 0 0) = wf := ⟨_, rfl⟩
  rw [hwf] at hfa hfo hfb ⊢
  have d0 : wf.cell? ⟨W.heap.size + 1, 0, none⟩ = some (.string (txt r)) := by simp [World.cell?, hfa]
  have d1 : wf.cell? ⟨W.heap.size + 1, 1, none⟩ = some (.int .i64 0) := by simp [World.cell?, hfa]
  have d2 : wf.cell? ⟨W.heap.size + 1, 2, none⟩ = some (.bool ok) := by simp [World.cell?, hfa]
  have d3 : wf.cell? ⟨W.heap.size + 1, 3, none⟩ = some (.bool false) := by simp [World.cell?, hfa]
  have d4 : wf.cell? ⟨W.heap.size + 1, 4, none⟩ = some (.slice none 0 0) := by simp [World.cell?, hfa]
  have hks : KS W wf := fun r x T fz hr hT hU => by
    have hrl := lt_of_some hr
    have hr2 : (stW (1, key, val, tx) W).heap[r]? = W.heap[r]? := HB2.out.block r hrl
    rw [hfo r (by omega), HK1.out r x T fz (hr2.trans hr) hT hU, hr2]
  have HFIN := Lib.hid (HQ.out (.slice none 0 0) wf (HP1.out.ans HA1.out hfo) hfb hks (kx_nil _))
  clear hwf hfa hfo hfb hks
  refine leaves_cons (f := 41) (args := #[.pointer (some ⟨W.heap.size + 1, 0, none⟩)]) (by simp) (by simp [go_sem]) ?_
  refine (rec_step ⟨W.heap.size + 1, 0, none⟩ _).mono ?_
  rintro e u' w'' ⟨rfl, rfl, rfl⟩
  simp [Leaves, settle, results, Tryz.results30, go_sem, d0, d1, d2, d3, d4]
  exact HFIN.out

end Go.Proofs.YtdfhidnhkeapbaaGreatDoor
