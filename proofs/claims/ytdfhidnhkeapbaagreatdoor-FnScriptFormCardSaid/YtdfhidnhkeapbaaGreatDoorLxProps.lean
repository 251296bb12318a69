/- impl.props: the properties of a set, with what Get tells of each. Conditions: the number of keys and of comments. -/
import Derived.Test.YtdfhidnhkeapbaaGreatDoorLxGets
import Derived.Test.YtdfhidnhkeapbaaGreatDoorGText
namespace Go.Proofs.YtdfhidnhkeapbaaGreatDoor
open Go.RowKit U8
open Go.Lib hiding intOf

/-- What an append is given: a slice whose cells are there, or none. -/
def RowAt (W : World) (vx : Value) (m size : Nat) (news : List Value) : Prop :=
  news.length = m * size ∧ (∀ u ∈ news, u.oneCell' = true) ∧ ((∃ ad c, vx = .slice (some ad) m c ∧ ∀ j u, news[j]? = some u → W.cell? (ad.add j) = some u) ∨ (m = 0 ∧ ∃ c, vx = .slice none 0 c))
theorem RowAt.below {W W' : World} {vx : Value} {m size : Nat} {news : List Value} (h : RowAt W vx m size news) (hb : Below W.heap.size W W') : RowAt W' vx m size news := by
  obtain ⟨h1, h2, ⟨ad, c, e, h3⟩ | h3⟩ := h
  · exact ⟨h1, h2, .inl ⟨ad, c, e, fun j u hj => (hb.cell (World.block_lt_of_cell? W _ (h3 j u hj))).trans (h3 j u hj)⟩⟩
  · exact ⟨h1, h2, .inr h3⟩
theorem step_append_free {P : Program} (w : World) {ops : Array Oper} {o : Oper} {a : Act} {K : Act → World → Prop} {Q : Exit → Act → World → Prop} {E : Prop} (hgd : o.guard = none) (s x : Operand) (t : TypeId)
    (ho : o.op = .call { callee := .builtin .append, args := #[s, x], argTypes := #[t, t] })
    (base : Nat) (e : TypeId) (i : TypeInfo) (z : Value) (size bytes : Nat) (ht : P.underlying t = some (.slice e)) (hi : P.info? e = some i) (hz : i.zero = some z)
    (hsize : i.size = size) (hby : i.bytes = bytes) (hzs : z.cells.size = size) (hsz : 0 < size)
    (v : Value) (n : Nat) (xs : List Value) (hs : a.eval s = v) (hown : w.ownsRow base e size v n xs)
    (vx : Value) (m : Nat) (news : List Value) (hx : a.eval x = vx) (hr : RowAt w vx m size news)
    (h63 : n + m ≤ 1000000000) (hbytes : (n + m) * bytes ≤ 140737488355328) (hbase : base ≤ w.heap.size)
    (h : ∀ ao cap w', w'.ownsRow base e size (.slice ao (n + m) cap) (n + m) (xs ++ news) → Below base w w' → (∀ k, k < w.heap.size → v.ownBlock ≠ some k → w'.heap[k]? = w.heap[k]?) → w.heap.size ≤ w'.heap.size → K (a.put o.dst (.slice ao (n + m) cap)) w') :
    if Region.wanted o (yielded ops a.tmps) = true then Oper.wp P o a w K Q else E := by
  have hw : Region.wanted o (yielded ops a.tmps) = true := by simp [Region.wanted, hgd]
  rw [if_pos hw]
  obtain ⟨hl, h1, ⟨ad, c, rfl, hnews⟩ | ⟨rfl, c, rfl⟩⟩ := hr
  · obtain ⟨v', w', hrun, h2, h3, _⟩ := run_append_own (P := P) w base t o.type e i z size bytes ht hi hz hsize hby hzs hsz v n xs hown ad m c news hl hnews h1 (by unfold maxLen; omega) hbytes hbase
    obtain ⟨ao, cap, rfl⟩ := owns_slice h2
    have hb : Below base w w' := (Below.refl base w).grown h3 (by omega) (fun k hk => (hown.lt k hk).1)
    unfold Oper.wp execOp
    simp only [ho, resolve, invoke, builtin, Sem.run_bind, Sem.run_pure, Result.andThen_ok, List.map_toArray, List.map_cons, List.map_nil, hs, hx, hrun]
    exact h ao cap w' h2 hb (fun k hk hne => h3.block k hk (fun e => hne e.symm)) h3.size
  · obtain ⟨ao, cap, rfl⟩ := owns_slice hown
    have hcap : n ≤ cap := by
      rcases hown.2 with ⟨e1, h0⟩ | ⟨g, cap2, cur, e1, _, _, h3, _⟩
      · omega
      · cases e1; exact h3
    have hne : news = [] := List.eq_nil_of_length_eq_zero (by omega)
    subst hne
    have hrun : (Builtin.append_ #[t, t] o.type #[.slice ao n cap, .slice none 0 c]).run P w = .ok (.slice ao n cap) w := by
      cases ao with
      | none => simp [Builtin.append_, run_underlying ht, sizeOf, typeInfo, hi, Builtin.lenOf, Builtin.firstCells, hcap]
      | some g => simp [Builtin.append_, run_underlying ht, sizeOf, typeInfo, hi, Builtin.lenOf, Builtin.firstCells, hcap, storeCells]
    unfold Oper.wp execOp
    simp only [ho, resolve, invoke, builtin, Sem.run_bind, Sem.run_pure, Result.andThen_ok, List.map_toArray, List.map_cons, List.map_nil, hs, hx, hrun]
    exact h ao cap w (by rw [List.append_nil]; exact hown) (Below.refl _ _) (fun _ _ _ => rfl) (Nat.le_refl _)
theorem Tryz.infoProp : (Tryz.prog.info? 36).map (fun i => (i.zero, i.size, i.bytes)) = some (some (.agg #[.string ⟨#[]⟩, .string ⟨#[]⟩, .string ⟨#[]⟩, .slice none 0 0]), 4, 72) := by kernel_rfl
/-- A property's cells. -/
def pc4 (p : PropA × Value) : List Value := [.string (txt p.1.k), .string (txt p.1.r), .string (txt p.1.x), p.2]
def Ents (L : List (PropA × Value)) : List Value := L.flatMap pc4
theorem pc4_get : ∀ (L : List (PropA × Value)) (j : Nat) (p : PropA × Value) (i : Nat), L[j]? = some p → i < 4 → (Ents L)[j * 4 + i]? = (pc4 p)[i]?
  | [], j, p, i, h, _ => by simp at h
  | q :: ps, 0, p, i, h, hi => by
    simp at h
    subst h
    show (pc4 q ++ Ents ps)[0 * 4 + i]? = _
    rw [List.getElem?_append_left (by simp [pc4]; omega)]
    simp
  | q :: ps, j + 1, p, i, h, hi => by
    have ih := pc4_get ps j p i (by simpa using h) hi
    show (pc4 q ++ Ents ps)[(j + 1) * 4 + i]? = _
    rw [List.getElem?_append_right (by simp [pc4]; omega), ← ih]
    congr 1
    simp [pc4]; omega
/-- All blocks but those of properties stand. -/
def NK (W W' : World) : Prop := ∀ (r : Nat) (o : Obj), W.heap[r]? = some o → (∀ x fz, o ≠ .cells x 36 fz) → W'.heap[r]? = some o
theorem NK.below {W W' : World} (h : Below W.heap.size W W') : NK W W' := fun r _ hr _ => (h.block r (lt_of_some hr)).trans hr
theorem NK.trans {W W1 W2 : World} (h : NK W W1) (h2 : NK W1 W2) : NK W W2 := fun r o hr hn => h2 r o (h r o hr hn) hn
theorem NK.own {B n : Nat} {v : Value} {xs : List Value} {W W' : World} (h : W.ownsRow B 36 4 v n xs) (hk : ∀ k, k < W.heap.size → v.ownBlock ≠ some k → W'.heap[k]? = W.heap[k]?) : NK W W' := fun r o hr hn => by
  rw [hk r (lt_of_some hr) (fun e => ?_)]
  · exact hr
  · rcases h.2 with ⟨rfl, _⟩ | ⟨g, cap, cur, rfl, _, hg, _⟩
    · cases e
    · have : g = r := by simpa [Value.ownBlock] using e
      subst this
      rw [hg] at hr
      exact hn _ _ (Option.some.inj hr).symm
theorem NK.cells {W W' : World} (h : NK W W') {r : Nat} {x : Array Value} {T : TypeId} {fz : Nat × Nat} (hr : W.heap[r]? = some (.cells x T fz)) (hT : T ≠ 36) : W'.heap[r]? = some (.cells x T fz) := h r _ hr (fun y f e => by cases e; exact hT rfl)
theorem NK.map {W W' : World} (h : NK W W') {r : Nat} {es : Array MapEntry} {c : Nat} (hr : W.heap[r]? = some (.map es c)) : W'.heap[r]? = some (.map es c) := h r _ hr (fun y f e => by cases e)
theorem MB.nk {m : Nat} {es : Es} {W W' : World} (h : MB m es W) (hk : NK W W') : MB m es W' := by
  obtain ⟨arr, c, hm⟩ := h.cells
  exact h.of ((hk.map hm).trans hm.symm)
theorem Ts.nk {v : Value} {l : List (List UInt8)} {W W' : World} (h : Ts W v l) (hk : NK W W') : Ts W' v l := h.keep fun g x fz hg => (hk.cells hg (by decide)).trans hg.symm
theorem Po.nk {B b m cb : Nat} {d : Bool} {kv : KV2} {cs : CS2} {W W' : World} (h : Po B b m cb d kv cs W) (hk : NK W W') : Po B b m cb d kv cs W' := by
  obtain ⟨h1, h2, h3, h4, vk, vc, ho, hm, hn, hc, hcn, hr⟩ := h
  obtain ⟨cw, hc1, hc2, hc3⟩ := id hc
  obtain ⟨_, _, hcb⟩ := hc2.cells
  exact ⟨h1, h2, h3, h4, vk, vc, hk.cells ho (by decide), hm.nk hk, hn, hc.keep ((hk.map hcb).trans hcb.symm) (fun g y fz hg a b => ⟨(hk.cells hg (by decide)).trans hg.symm, a, b⟩), hcn, owns_of hr fun g hg => by
    obtain ⟨y, fz, hy⟩ := own_kind hr hg
    exact (hk.cells hy (by decide)).trans hy.symm⟩
theorem ts_rowAt {W : World} {v : Value} {l : List (List UInt8)} (hv : v = .slice none 0 0 ∨ ∃ a c, v = .slice (some a) l.length c) (h : Ts W v l) : RowAt W v l.length 1 (strsV l) := by
  have hone : ∀ u ∈ strsV l, u.oneCell' = true := by
    intro u hu
    unfold strsV at hu
    obtain ⟨x, _, rfl⟩ := List.mem_map.1 hu
    rfl
  have hlen : (strsV l).length = l.length * 1 := by unfold strsV; rw [List.length_map]; omega
  refine ⟨hlen, hone, ?_⟩
  rcases h with ⟨rfl, a, c, rfl⟩ | ⟨g, o, cap, cur, fz, rfl, hc, hg, hx⟩
  · cases a with
    | none => exact .inr ⟨rfl, c, rfl⟩
    | some a => exact .inl ⟨a, c, rfl, fun j u hj => by simp [strsV] at hj⟩
  · refine .inl ⟨⟨g, o, none⟩, cap, rfl, fun j u hj => ?_⟩
    have ea : (⟨g, o, none⟩ : Addr).add j = ⟨g, o + j, none⟩ := by unfold Addr.add; split <;> simp_all
    rw [ea]
    simp only [World.cell?, hg]
    unfold strsV at hj
    rw [List.getElem?_map] at hj
    cases hq : l[j]? with
    | none => rw [hq] at hj; cases hj
    | some x =>
      rw [hq] at hj
      simp only [Option.map_some, Option.some.injEq] at hj
      rw [← hj]
      simpa using hx j x hq
/-- A row of properties, told by its block. -/
theorem px_own {B : Nat} {v : Value} {L : List (PropA × Value)} {W : World} (h : W.ownsRow B 36 4 v L.length (Ents L)) (hts : ∀ p ∈ L, Ts W p.2 p.1.c) : Px W v (L.map Prod.fst) := by
  rcases h.2 with ⟨rfl, h0⟩ | ⟨g, cap, cur, rfl, _, hg, hcp, _⟩
  · have : L = [] := List.eq_nil_of_length_eq_zero h0
    subst this
    exact ⟨none, 0, rfl, Nat.le_refl _, fun j p hj => by simp at hj⟩
  · refine ⟨_, cap, by rw [List.length_map], by rw [List.length_map]; exact hcp, fun j p hj => ?_⟩
    rw [List.getElem?_map] at hj
    cases hq : L[j]? with
    | none => rw [hq] at hj; cases hj
    | some q =>
      rw [hq] at hj
      simp only [Option.map_some, Option.some.injEq] at hj
      subst hj
      have ad : ∀ n, (⟨g, 0, none⟩ : Addr).add n = ⟨g, 0 + n, none⟩ := fun n => by unfold Addr.add; split <;> simp_all
      have hc : ∀ i u, i < 4 → (pc4 q)[i]? = some u → W.cell? ⟨g, 0 + (j * 4 + i), none⟩ = some u := fun i u hi hu => by
        rw [← ad]
        exact World.ownsRow.cells h rfl _ _ ((pc4_get L j q i hq hi).trans hu)
      refine ⟨g, 0, q.2, rfl, hc 0 _ (by omega) rfl, by rw [Nat.add_assoc]; exact hc 1 _ (by omega) rfl, by rw [Nat.add_assoc]; exact hc 2 _ (by omega) rfl, by rw [Nat.add_assoc]; exact hc 3 _ (by omega) rfl, ?_⟩
      rcases hts q (List.mem_of_getElem? hq) with ⟨e, a, c, e2⟩ | ⟨g2, o2, cap2, cur2, fz2, e, hc2, hg2, hx2⟩
      · exact ⟨a, c, by rw [e2, e]; rfl, by rw [e]; exact Nat.zero_le _, fun j x hj => by rw [e] at hj; simp at hj⟩
      · refine ⟨_, cap2, e, hc2, fun j x hj => ⟨g2, o2, rfl, ?_⟩⟩
        simp only [World.cell?, hg2]
        simpa using hx2 j x hj
theorem rowAt_new (W : World) (x y z : ByteArray) (v : Value) (hv : v.oneCell' = true) : RowAt (W.alloc (.cells #[.string x, .string y, .string z, v] 36)) (.slice (some ⟨W.heap.size, 0, none⟩) 1 1) 1 4 [.string x, .string y, .string z, v] := by
  refine ⟨rfl, ?_, .inl ⟨_, 1, rfl, fun j u hj => World.news_of_block (heap_alloc_new W _) j u (by simpa using hj)⟩⟩
  intro u hu
  simp at hu
  rcases hu with rfl | rfl | rfl | rfl
  · rfl
  · rfl
  · rfl
  · exact hv
theorem ts_own {B : Nat} {v : Value} {l : List (List UInt8)} {W : World} (h : W.ownsRow B 9 1 v l.length (strsV l)) : Ts W v l := by
  rcases h.2 with ⟨rfl, h0⟩ | ⟨g, cap, cur, rfl, _, hg, hc, _, _, ht⟩
  · exact .inl ⟨List.eq_nil_of_length_eq_zero h0, none, 0, rfl⟩
  · refine .inr ⟨g, 0, cap, cur, (0, 0), rfl, hc, hg, fun j x hj => ?_⟩
    rw [Nat.zero_add, ← Array.getElem?_toList]
    have h9 : (strsV l)[j]? = some (.string (txt x)) := by simp [strsV, hj]
    rw [← ht, List.getElem?_take] at h9
    split at h9
    · exact h9
    · cases h9
def mkP (X : List UInt8 × List UInt8 → List UInt8) (cs : CS2) (p : List UInt8 × List UInt8) : PropA := ⟨p.1, p.2, X p, cmOf cs p.1⟩
set_option maxHeartbeats 6400000 in
set_option maxRecDepth 100000 in
theorem props_any (B b m cb : Nat) (d : Bool) (kv : KV2) (cs : CS2) (X : List UInt8 × List UInt8 → List UInt8) (w : World) (h : Po B b m cb d kv cs w) (hl : kv.length ≤ 1000000) (hcl : ∀ k, (cmOf cs k).length ≤ 1000000)
    (hget : ∀ W, Below w.heap.size w W → ∀ p ∈ kv, Calls Tryz.prog 43 #[.pointer (some ⟨b, 0, none⟩), .string (txt p.1)] W fun e w' => e = .returned (.tuple #[.string (txt (X p)), .bool true]) ∧ Below W.heap.size W w') :
    Calls Tryz.prog 46 #[.pointer (some ⟨b, 0, none⟩)] w fun e w' => ∃ v, e = .returned v ∧ Px w' v (kv.map (mkP X cs)) ∧ Below w.heap.size w w' := by
  obtain ⟨i0, hi, hz0, hz1, hz2⟩ := info_parts Tryz.infoStr
  obtain ⟨ip, hpi, hp0, hp1, hp2⟩ := info_parts Tryz.infoProp
  have HG := Lib.hid hget
  have HCL := Lib.hid hcl
  have HPO := Lib.hid h
  have CM := Lib.hid (map_any B b m cb d kv cs w h)
  clear hget hcl h
  go_enter Tryz.func46, Tryz.ntmps46
  go_wp2_with fail
  refine CM.out.mono ?_
  rintro e w1 ⟨mx, acc, rfl, hmx, hM1, hperm, hb1⟩
  have HP1 := Lib.hid (HPO.out.nk (NK.below hb1))
  have HM1 := Lib.hid hM1
  have HB1 := Lib.hid hb1
  have HPERM := Lib.hid hperm
  clear hM1 hb1 hperm CM
  go_wp2_with fail
  refine (keys_any B b m cb d kv cs w1 HP1.out hl).mono ?_
  rintro e w2 ⟨gk0, rfl, hgk, hgs, hb2⟩
  have HP2 := Lib.hid (HP1.out.nk (NK.below hb2))
  have HM2 := Lib.hid (HM1.out.nk (NK.below hb2))
  have HB2 := Lib.hid (HB1.out.trans (hb2.mono HB1.out.size))
  have HK2 := Lib.hid hgk
  clear hgk hb2 HP1 HM1 HB1
  rw [List.length_map]
  go_wp2
  go_loopg [4, 6, 7, 8, 14] (kv.length + 1) (fun gk v4 v6 v7 v8 v14 wr => ∃ (j : Nat) (L : List (PropA × Value)) (ao : Option Addr) (cap : Nat), v14 = .int .i64 j ∧ v4 = .slice ao L.length cap ∧ j ≤ kv.length ∧ kv.length - j < gk ∧ L.length ≤ j ∧ Hid (L.map Prod.fst = (kv.take j).map (mkP X cs)) ∧
    Hid (wr.ownsRow w.heap.size 36 4 (.slice ao L.length cap) L.length (Ents L)) ∧ Hid (∀ p ∈ L, Ts wr p.2 p.1.c) ∧ Hid (Po B b m cb d kv cs wr) ∧ Hid (MB mx (eV acc) wr) ∧ Hid (wr.heap[gk0]? = some (.cells (strsV (kv.map Prod.fst)).toArray 9 (0, 0))) ∧ Hid (Below w.heap.size w wr))
  case atStart => exact ⟨0, [], none, 0, rfl, rfl, by omega, by omega, by simp, rfl, ⟨rfl, .inl ⟨rfl, rfl⟩⟩, (fun p hp => absurd hp (by simp)), HP2.out, HM2.out, HK2.out, HB2.out⟩
  case round =>
    obtain ⟨j, L, ao, cap, rfl, rfl, hj, hg, hLj, HL, HW, HTS, HP, HM, HK, HB⟩ := hrel
    clear HP2 HM2 HK2 HB2
    by_cases hlt : j < kv.length
    · obtain ⟨gk, rfl⟩ : ∃ m, gk = m + 1 := ⟨gk - 1, by omega⟩
      have hp := List.getElem?_eq_getElem hlt
      have htk := List.take_succ_eq_append_getElem hlt
      generalize kv[j] = p at hp htk
      have hmem := List.mem_of_getElem? hp
      have ck : wr.cell? ⟨gk0, j, none⟩ = some (.string (txt p.1)) := by
        simp only [World.cell?, HK.out]
        simp [strsV, hp]
      have HTK : Hid ((L.map Prod.fst) ++ [mkP X cs p] = (kv.take (j + 1)).map (mkP X cs)) := by
        show _ = _
        rw [HL.out, htk, List.map_append]; rfl
      have CG := Lib.hid (HG.out wr HB.out p hmem)
      have hpa : (p.1, p.2) ∈ acc := HPERM.out.mem_iff.2 hmem
      have hand : (acc.map Prod.fst).Nodup := (HPERM.out.map Prod.fst).nodup_iff.2 (by obtain ⟨_, _, _, _, vk, vc, _, _, hn, _⟩ := HP.out; exact hn)
      have HLKW : Hid (∀ W, MB mx (eV acc) W → (Instr.lookup 60 (.map (some mx)) (.string (txt p.1)) false).run Tryz.prog W = .ok (.string (txt p.2)) W) := fun W hW =>
        (lookw_hit (P := Tryz.prog) 60 9 9 mx (sV acc) p.1 (.string (txt p.2)) Tryz.underlying60 Tryz.underlying9 (by rw [kvW_sV]; exact hW) (by rw [sV_fst]; exact hand) (List.mem_map.2 ⟨(p.1, p.2), hpa, rfl⟩)).2
      have HCP := Lib.hid (HCL.out p.1)
      clear hp htk hmem hpa hand HL
      go_wp2_with fail
      refine CG.out.mono ?_
      rintro e w1 ⟨rfl, hb1⟩
      have hs1 := HB.out.size
      have HP1 := Lib.hid (HP.out.nk (NK.below hb1))
      have HM1 := Lib.hid (HM.out.nk (NK.below hb1))
      have HB1 := Lib.hid (HB.out.trans (hb1.mono hs1))
      have HK1 : Hid (w1.heap[gk0]? = some (.cells (strsV (kv.map Prod.fst)).toArray 9 (0, 0))) := (NK.below hb1).cells HK.out (by decide)
      have HW1 : Hid (w1.ownsRow w.heap.size 36 4 (.slice ao L.length cap) L.length (Ents L)) := owns_cut HW.out hb1
      have HTS1 : Hid (∀ p ∈ L, Ts w1 p.2 p.1.c) := fun q hq => (HTS.out q hq).nk (NK.below hb1)
      have hs11 := HB1.out.size
      clear hb1 HP HM HB HK HW HTS CG ck
      go_upto_region 7 with fail
      have hlk1 := HLKW.out w1.drew (HM1.out.nk (NK.below (Below.refl _ _).drew))
      have hlk2 := HLKW.out (w1.drew.alloc (.cells #[] 9)) (HM1.out.nk (NK.below ((Below.refl _ w1).drew.alloc (Nat.le_refl _) _)))
      have hlk3 := HLKW.out (w1.alloc (.cells #[] 9)).drew (HM1.out.nk (NK.below ((Below.refl _ w1).alloc (Nat.le_refl _) (.cells #[] 9)).drew))
      have HOE : Hid ((w1.drew.alloc (.cells #[] 9)).ownsRow w.heap.size 9 1 (.slice (some ⟨w1.heap.size, 0, none⟩) 0 0) 0 []) :=
        ⟨rfl, .inr ⟨w1.heap.size, 0, #[], rfl, hs11, heap_alloc_new w1.drew _, Nat.le_refl _, by unfold maxLen; omega, rfl, rfl⟩⟩
      have HBA : Hid (Below w.heap.size w (w1.drew.alloc (.cells #[] 9))) := HB1.out.drew.alloc hs11 _
      have hbs2 : w.heap.size ≤ (w1.drew.alloc (.cells #[] 9)).heap.size := HBA.out.size
      have CC := Lib.hid fun W (hW : Below w1.heap.size w1 W) => getc_any B b m cb d kv cs p.1 W (HP1.out.nk (NK.below hW))
      obtain ⟨CO, hCO⟩ : ∃ c, cmOf cs p.1 = c := ⟨_, rfl⟩
      rw [hCO] at CC HCP
      have HCO := Lib.hid hCO
      clear hCO
      go_region_law (first
        | (refine step_append_free _ rfl (.tmp 30) (.tmp 33) 34 rfl w.heap.size 9 i0 (.string ⟨#[]⟩) 1 16 Tryz.underlying34 hi hz0 hz1 hz2 rfl (by decide) (.slice (some ⟨w1.heap.size, 0, none⟩) 0 0) 0 [] (by simp [Act.eval]) HOE.out v5 CO.length (strsV CO) (by simp [Act.eval]) (ts_rowAt hv5 hts6) (by have := HCP.out; omega) (by have := HCP.out; omega) hbs2 ?_
           intro ga cp2 w6 hown6 hb6 hk6 hs6
           have hk61 : ∀ r, r < w1.heap.size → w6.heap[r]? = w1.heap[r]? := fun r hr => (hk6 r (by simp; omega) (by simp [Value.ownBlock]; omega)).trans (al_old w1.drew _ r hr)
           have hw6 : w6.ownsRow w.heap.size 36 4 (.slice ao L.length cap) L.length (Ents L) := owns_keep HW1.out fun g hg => hk61 g (HW1.out.lt g hg).2
           have hbs6 : w.heap.size ≤ w6.heap.size := Nat.le_trans hbs2 hs6
           have hlk6 := HLKW.out w6 (HM1.out.nk fun r o hr _ => (hk61 r (lt_of_some hr)).trans hr))
        | (refine step_append_free _ rfl (.tmp 24) (.tmp 36) 29 rfl w.heap.size 36 ip _ 4 72 Tryz.underlying29 hpi hp0 hp1 hp2 rfl (by decide) (.slice ao L.length cap) L.length (Ents L) (by simp [Act.eval]) (hw6.alloc _) (.slice (some ⟨w6.heap.size, 0, none⟩) 1 1) 1 _ (by simp [Act.eval]) (rowAt_new w6 _ _ _ _ rfl) (by omega) (by omega) (by simp; omega) ?_
           intro ga7 cp7 w8 hown8 hb8 hk8 hs8)
        | (go_simp; go_at_call 33; refine (CC.out _ (by first | exact (Below.refl _ _).drew | exact (Below.refl _ w1).drew.alloc (Nat.le_refl _) _ | exact ((Below.refl _ w1).alloc (Nat.le_refl _) _).drew)).mono ?_; rintro e w5 ⟨⟨v5, rfl, hv5, hts5⟩, hw5⟩; obtain rfl := hw5.symm
           have hts6 : Ts (w1.drew.alloc (.cells #[] 9)) v5 CO := by first | exact hts5 | exact hts5.keep fun g x fz hg => al_old _ _ _ (lt_of_some hg)))
      all_goals
        have hown6' : w6.ownsRow w.heap.size 9 1 (.slice ga CO.length cp2) CO.length (strsV CO) := by simpa using hown6
        have hn16 : NK w1 w6 := fun r o hr _ => (hk61 r (lt_of_some hr)).trans hr
        have hn6a := NK.below ((Below.refl _ w6).alloc (Nat.le_refl _) (.cells #[.string (txt p.1), .string (txt p.2), .string (txt (X p)), .slice ga CO.length cp2] 36))
        have hn68 : NK w6 w8 := hn6a.trans (NK.own (hw6.alloc _) (fun k hk hne => hk8 k (by simpa using hk) hne))
        have hn18 := hn16.trans hn68
        have HP8 := Lib.hid (HP1.out.nk hn18)
        have HM8 := Lib.hid (HM1.out.nk hn18)
        have HK8 : Hid (w8.heap[gk0]? = some (.cells (strsV (kv.map Prod.fst)).toArray 9 (0, 0))) := hn18.cells HK1.out (by decide)
        have HB8 := Lib.hid (((HBA.out.trans hb6).alloc hbs6 (.cells #[.string (txt p.1), .string (txt p.2), .string (txt (X p)), .slice ga CO.length cp2] 36)).trans hb8)
        have HW8 : Hid (w8.ownsRow w.heap.size 36 4 (.slice ga7 (L.length + 1) cp7) (L ++ [(mkP X cs p, Value.slice ga CO.length cp2)]).length (Ents (L ++ [(mkP X cs p, Value.slice ga CO.length cp2)]))) := by
          have e1 : (L ++ [(mkP X cs p, Value.slice ga CO.length cp2)]).length = L.length + 1 := by simp
          have e2 : Ents (L ++ [(mkP X cs p, Value.slice ga CO.length cp2)]) = Ents L ++ pc4 (mkP X cs p, Value.slice ga CO.length cp2) := by simp [Ents]
          show World.ownsRow _ _ _ _ _ _ _
          rw [e1, e2]
          exact hown8
        have HTS8 : Hid (∀ q ∈ L ++ [(mkP X cs p, Value.slice ga CO.length cp2)], Ts w8 q.2 q.1.c) := by
          show ∀ _ _, _
          intro q hq
          rcases List.mem_append.1 hq with hq | hq
          · exact (HTS1.out q hq).nk hn18
          · simp at hq
            subst hq
            have e : (mkP X cs p).c = CO := HCO.out
            show Ts w8 _ (mkP X cs p).c
            rw [e]
            exact (ts_own hown6').nk hn68
        clear hown6 hown6' hb6 hk6 hs6 hk61 hw6 hlk6 hown8 hb8 hk8 hs8 hn16 hn6a hn68 hn18 hts6 hts5 hv5
        go_wp2
        go_roundg gk
        case rel => exact ⟨j + 1, L ++ [(mkP X cs p, Value.slice ga CO.length cp2)], ga7, cp7, by go_num, by rw [List.length_append]; rfl, by omega, by omega, by rw [List.length_append]; simp; omega, by show _ = _; rw [List.map_append]; exact HTK.out, by have h9 := HW8.out; rw [List.length_append] at h9 ⊢; exact h9, HTS8.out, HP8.out, HM8.out, HK8.out, HB8.out⟩
        case measure => omega
    · have HLF : Hid (L.map Prod.fst = kv.map (mkP X cs)) := by
        show _ = _
        rw [HL.out, List.take_of_length_le (by omega)]
      have HPX : Hid (Px wr (.slice ao L.length cap) (kv.map (mkP X cs))) := by
        show Px _ _ _
        rw [← HLF.out]; exact px_own HW.out HTS.out
      go_wp2
      go_ret
      exact ⟨_, rfl, HPX.out, HB.out⟩
end Go.Proofs.YtdfhidnhkeapbaaGreatDoor
