/- The state of the parser of properties in memory, and what its steps do to it. No condition of its own. -/
import Derived.Test.YtdfhidnhkeapbaaGreatDoorLxRun
import Derived.Test.YtdfhidnhkeapbaaGreatDoorLxRec
import Derived.Test.YtdfhidnhkeapbaaGreatDoorLxMap
namespace Go.Proofs.YtdfhidnhkeapbaaGreatDoor
open Go.RowKit U8
open Go.Lib hiding intOf

/-- A row of texts that was put away: it lies apart from the two rows that grow. -/
def Tz (vk vc : Value) (W : World) (v : Value) (l : List (List UInt8)) : Prop :=
  ∃ (g o cap : Nat) (cur : Array Value) (fz : Nat × Nat), v = .slice (some ⟨g, o, none⟩) l.length cap ∧ l.length ≤ cap ∧ W.heap[g]? = some (.cells cur 9 fz) ∧ vk.ownBlock ≠ some g ∧ vc.ownBlock ≠ some g ∧ ∀ j x, l[j]? = some x → cur[o + j]? = some (.string (txt x))
abbrev CW := List (List UInt8 × (List (List UInt8) × Value))
def sV (kv : KV2) : KW := kv.map fun q => (q.1, Value.string (txt q.2))
theorem sV_fst (kv : KV2) : (sV kv).map Prod.fst = kv.map Prod.fst := by unfold sV; rw [List.map_map]; rfl
theorem sV_upd (kv : KV2) (k v : List UInt8) : sV (updA kv (k, v)) = updA (sV kv) (k, .string (txt v)) := updA_map (fun v => Value.string (txt v)) kv (k, v)
/-- The comments by their keys, in map cb. -/
def Cm (vk vc : Value) (cb : Nat) (cs : CS2) (W : World) : Prop :=
  ∃ cw : CW, cs = cw.map (fun q => (q.1, q.2.1)) ∧ MB cb (kvW (cw.map fun q => (q.1, q.2.2))) W ∧ ∀ x ∈ cw, Tz vk vc W x.2.2 x.2.1
structure PS (B e0 ps lb gi pb m cb : Nat) (vk vc : Value) (its : List LI) (ks : List (List UInt8)) (kv : KV2) (cs : CS2) (co : List (List UInt8)) (W : World) : Prop where
  lex : Lq B lb gi its W
  err : W.heap[e0]? = some (.cells #[.nilIface] 90 (0, 0))
  par : W.heap[ps]? = some (.cells #[.pointer (some ⟨lb, 0, none⟩)] 151 (0, 0))
  obj : W.heap[pb]? = some (.cells #[.string ⟨#[36, 123]⟩, .string ⟨#[125]⟩, .bool false, .map (some m), .map (some cb), vk, .string ⟨#[]⟩] 63 (0, 0))
  mm : MB m (kvW (sV kv)) W
  mn : (kv.map Prod.fst).Nodup
  cc : Cm vk vc cb cs W
  cn : (cs.map Prod.fst).Nodup
  keys : W.ownsRow B 9 1 vk ks.length (strsV ks)
  coms : W.ownsRow B 9 1 vc co.length (strsV co)
  apart : ∀ g, vk.ownBlock = some g → vc.ownBlock ≠ some g
  mc : m ≠ cb
  base : B ≤ e0 ∧ B ≤ ps ∧ B ≤ pb ∧ B ≤ m ∧ B ≤ cb
theorem lt_of_some {W : World} {r : Nat} {o : Obj} (h : W.heap[r]? = some o) : r < W.heap.size := (Array.getElem?_eq_some_iff.1 h).1
theorem ne_of_types {W : World} {r s : Nat} {x y : Array Value} {T U : TypeId} {a b : Nat × Nat} (h : W.heap[r]? = some (.cells x T a)) (h2 : W.heap[s]? = some (.cells y U b)) (hT : T ≠ U) : r ≠ s := by
  rintro rfl
  rw [h] at h2
  cases h2
  exact hT rfl
theorem ne_of_map {W : World} {r s : Nat} {x : Array Value} {T : TypeId} {a : Nat × Nat} {es : Array MapEntry} {c : Nat} (h : W.heap[r]? = some (.cells x T a)) (h2 : W.heap[s]? = some (.map es c)) : r ≠ s := by
  rintro rfl
  rw [h] at h2
  cases h2
theorem own_kind {B n : Nat} {v : Value} {xs : List Value} {w : World} (h : w.ownsRow B 9 1 v n xs) {g : Nat} (hg : v.ownBlock = some g) : ∃ x fz, w.heap[g]? = some (.cells x 9 fz) := by
  rcases h.2 with ⟨rfl, _⟩ | ⟨g2, cap, cur, rfl, _, hh, _⟩
  · cases hg
  · have : g2 = g := by simpa [Value.ownBlock] using hg
    subst this
    exact ⟨_, _, hh⟩
theorem Lq.cells {B b g : Nat} {its : List LI} {W : World} (h : Lq B b g its W) : (∃ x, W.heap[b]? = some (.cells x 133 (0, 0))) ∧ ∃ x fz, W.heap[g]? = some (.cells x 138 fz) := by
  obtain ⟨h1, _, _, _, _, _, _, _, o, cap, cur, fz, _, h2, h4, h5, _⟩ := h
  exact ⟨⟨_, h4⟩, _, _, h5⟩
theorem MB.cells {m : Nat} {es : Es} {W : World} (h : MB m es W) : ∃ arr c, W.heap[m]? = some (.map arr c) := by
  obtain ⟨arr, c, h1, _⟩ := h
  exact ⟨arr, c, h1⟩
theorem Cm.keep {vk vc vk2 vc2 : Value} {cb : Nat} {cs : CS2} {W W' : World} (h : Cm vk vc cb cs W) (hb : W'.heap[cb]? = W.heap[cb]?) (hs : ∀ g x fz, W.heap[g]? = some (.cells x 9 fz) → vk.ownBlock ≠ some g → vc.ownBlock ≠ some g → W'.heap[g]? = W.heap[g]? ∧ vk2.ownBlock ≠ some g ∧ vc2.ownBlock ≠ some g) : Cm vk2 vc2 cb cs W' := by
  obtain ⟨cw, h1, h2, h3⟩ := h
  refine ⟨cw, h1, h2.of hb, fun x hx => ?_⟩
  obtain ⟨g, o, cap, cur, fz, e, hc, hg, hk, hv, hx⟩ := h3 x hx
  obtain ⟨s1, s2, s3⟩ := hs g _ _ hg hk hv
  exact ⟨g, o, cap, cur, fz, e, hc, s1.trans hg, s2, s3, hx⟩
section
variable {B e0 ps lb gi pb m cb : Nat} {vk vc : Value} {its : List LI} {ks : List (List UInt8)} {kv : KV2} {cs : CS2} {co : List (List UInt8)} {W : World}
/-- Steps that leave all blocks but the lexer's. -/
theorem PS.all (h : PS B e0 ps lb gi pb m cb vk vc its ks kv cs co W) {its2 : List LI} {W' : World} (hl : Lq B lb gi its2 W') (hk : ∀ r, r < W.heap.size → r ≠ lb → W'.heap[r]? = W.heap[r]?) : PS B e0 ps lb gi pb m cb vk vc its2 ks kv cs co W' := by
  obtain ⟨x, hx⟩ := h.lex.cells.1
  have s : ∀ {r : Nat} {o : Obj}, W.heap[r]? = some o → r ≠ lb → W'.heap[r]? = some o := fun hr hne => (hk _ (lt_of_some hr) hne).trans hr
  have sx : ∀ {g : Nat} {y : Array Value} {fz : Nat × Nat}, W.heap[g]? = some (.cells y 9 fz) → g ≠ lb := fun hg => ne_of_types hg hx (by decide)
  obtain ⟨_, _, hm⟩ := h.mm.cells
  obtain ⟨cw, hc1, hc2, hc3⟩ := h.cc
  obtain ⟨_, _, hcb⟩ := hc2.cells
  exact { lex := hl, err := s h.err (ne_of_types h.err hx (by decide)), par := s h.par (ne_of_types h.par hx (by decide)), obj := s h.obj (ne_of_types h.obj hx (by decide)),
          mm := h.mm.of (hk _ h.mm.lt (ne_of_map hx hm).symm), mn := h.mn,
          cc := h.cc.keep (hk _ hc2.lt (ne_of_map hx hcb).symm) fun g y fz hg h1 h2 => ⟨hk _ (lt_of_some hg) (sx hg), h1, h2⟩, cn := h.cn,
          keys := owns_of h.keys fun g hg => by
            obtain ⟨y, fz, hy⟩ := own_kind h.keys hg
            exact hk _ (lt_of_some hy) (sx hy),
          coms := owns_of h.coms fun g hg => by
            obtain ⟨y, fz, hy⟩ := own_kind h.coms hg
            exact hk _ (lt_of_some hy) (sx hy),
          apart := h.apart, mc := h.mc, base := h.base }
theorem PS.below (h : PS B e0 ps lb gi pb m cb vk vc its ks kv cs co W) {W' : World} (hb : Below W.heap.size W W') : PS B e0 ps lb gi pb m cb vk vc its ks kv cs co W' := by
  obtain ⟨h1, h2, _⟩ := h.lex.lt
  exact h.all (h.lex.keep (hb.block _ h1) (hb.block _ h2)) fun r hr _ => hb.block r hr
/-- A key more. -/
theorem PS.key (h : PS B e0 ps lb gi pb m cb vk vc its ks kv cs co W) (k : List UInt8) {vk2 : Value} {W1 : World} (hown : W1.ownsRow B 9 1 vk2 (ks.length + 1) (strsV ks ++ [.string (txt k)]))
    (hk : ∀ r, r < W.heap.size → vk.ownBlock ≠ some r → W1.heap[r]? = W.heap[r]?) (ha : ∀ r, r < W.heap.size → vk.ownBlock ≠ some r → vk2.ownBlock ≠ some r) : PS B e0 ps lb gi pb m cb vk2 vc its (ks ++ [k]) kv cs co (W1.setCell ⟨pb, 5, none⟩ vk2) := by
  have s : ∀ r, r < W.heap.size → vk.ownBlock ≠ some r → r ≠ pb → (W1.setCell ⟨pb, 5, none⟩ vk2).heap[r]? = W.heap[r]? := fun r hr h1 h2 => (Below.heap_setCell _ _ _ _ (by exact h2)).trans (hk r hr h1)
  obtain ⟨⟨xl, hxl⟩, xi, fi, hxi⟩ := h.lex.cells
  obtain ⟨_, _, hm⟩ := h.mm.cells
  obtain ⟨cw, hc1, hc2, hc3⟩ := h.cc
  obtain ⟨_, _, hcb⟩ := hc2.cells
  have hW1 : W1.heap[pb]? = some (.cells #[.string ⟨#[36, 123]⟩, .string ⟨#[125]⟩, .bool false, .map (some m), .map (some cb), vk, .string ⟨#[]⟩] 63 (0, 0)) := (hk _ (lt_of_some h.obj) (own_ne_cells h.keys h.obj (by decide))).trans h.obj
  have hlen : (ks ++ [k]).length = ks.length + 1 := by simp
  have hstr : strsV (ks ++ [k]) = strsV ks ++ [.string (txt k)] := by simp [strsV]
  exact { lex := h.lex.keep (s _ (lt_of_some hxl) (own_ne_cells h.keys hxl (by decide)) (ne_of_types hxl h.obj (by decide))) (s _ (lt_of_some hxi) (own_ne_cells h.keys hxi (by decide)) (ne_of_types hxi h.obj (by decide))),
          err := (s _ (lt_of_some h.err) (own_ne_cells h.keys h.err (by decide)) (ne_of_types h.err h.obj (by decide))).trans h.err,
          par := (s _ (lt_of_some h.par) (own_ne_cells h.keys h.par (by decide)) (ne_of_types h.par h.obj (by decide))).trans h.par,
          obj := by simp [World.setCell, Array.getElem?_modify, hW1],
          mm := h.mm.of (s _ h.mm.lt (own_ne_map h.keys hm) (ne_of_map h.obj hm).symm), mn := h.mn,
          cc := h.cc.keep (s _ hc2.lt (own_ne_map h.keys hcb) (ne_of_map h.obj hcb).symm) fun g y fz hg h1 h2 => ⟨s _ (lt_of_some hg) h1 (ne_of_types hg h.obj (by decide)), ha _ (lt_of_some hg) h1, h2⟩, cn := h.cn,
          keys := by
            rw [hlen, hstr]
            exact owns_of hown fun g hg => Below.heap_setCell _ _ _ _ (by
              obtain ⟨y, fz, hy⟩ := own_kind hown hg
              exact ne_of_types hy hW1 (by decide)),
          coms := owns_of h.coms fun g hg => by
            obtain ⟨y, fz, hy⟩ := own_kind h.coms hg
            exact s _ (lt_of_some hy) (fun e => h.apart g e hg) (ne_of_types hy h.obj (by decide)),
          apart := fun g hg hv => by
            obtain ⟨y, fz, hy⟩ := own_kind h.coms hv
            exact ha g (lt_of_some hy) (fun e => h.apart g e hv) hg,
          mc := h.mc, base := h.base }
/-- A comment more. -/
theorem PS.com (h : PS B e0 ps lb gi pb m cb vk vc its ks kv cs co W) (k : List UInt8) {vc2 : Value} {W1 : World} (hown : W1.ownsRow B 9 1 vc2 (co.length + 1) (strsV co ++ [.string (txt k)]))
    (hk : ∀ r, r < W.heap.size → vc.ownBlock ≠ some r → W1.heap[r]? = W.heap[r]?) (ha : ∀ r, r < W.heap.size → vc.ownBlock ≠ some r → vc2.ownBlock ≠ some r) : PS B e0 ps lb gi pb m cb vk vc2 its ks kv cs (co ++ [k]) W1 := by
  obtain ⟨⟨xl, hxl⟩, xi, fi, hxi⟩ := h.lex.cells
  obtain ⟨_, _, hm⟩ := h.mm.cells
  obtain ⟨cw, hc1, hc2, hc3⟩ := h.cc
  obtain ⟨_, _, hcb⟩ := hc2.cells
  have hlen : (co ++ [k]).length = co.length + 1 := by simp
  have hstr : strsV (co ++ [k]) = strsV co ++ [.string (txt k)] := by simp [strsV]
  exact { lex := h.lex.keep (hk _ (lt_of_some hxl) (own_ne_cells h.coms hxl (by decide))) (hk _ (lt_of_some hxi) (own_ne_cells h.coms hxi (by decide))),
          err := (hk _ (lt_of_some h.err) (own_ne_cells h.coms h.err (by decide))).trans h.err,
          par := (hk _ (lt_of_some h.par) (own_ne_cells h.coms h.par (by decide))).trans h.par,
          obj := (hk _ (lt_of_some h.obj) (own_ne_cells h.coms h.obj (by decide))).trans h.obj,
          mm := h.mm.of (hk _ h.mm.lt (own_ne_map h.coms hm)), mn := h.mn,
          cc := h.cc.keep (hk _ hc2.lt (own_ne_map h.coms hcb)) fun g y fz hg h1 h2 => ⟨hk _ (lt_of_some hg) h2, h1, ha _ (lt_of_some hg) h2⟩, cn := h.cn,
          keys := owns_of h.keys fun g hg => by
            obtain ⟨y, fz, hy⟩ := own_kind h.keys hg
            exact hk _ (lt_of_some hy) (h.apart g hg),
          coms := by rw [hlen, hstr]; exact hown,
          apart := fun g hg hv => by
            obtain ⟨y, fz, hy⟩ := own_kind h.keys hg
            exact ha g (lt_of_some hy) (h.apart g hg) hv,
          mc := h.mc, base := h.base }
/-- Steps that leave all blocks but the map of keys, or that of comments. -/
theorem PS.map (h : PS B e0 ps lb gi pb m cb vk vc its ks kv cs co W) {W' : World} {r0 : Nat} (h0 : ∃ es c, W.heap[r0]? = some (.map es c)) (hk : ∀ r, r ≠ r0 → W'.heap[r]? = W.heap[r]?) {kv2 : KV2} {cs2 : CS2} (hm : MB m (kvW (sV kv2)) W') (hn : (kv2.map Prod.fst).Nodup) (hc : Cm vk vc cb cs2 W') (hcn : (cs2.map Prod.fst).Nodup) :
    PS B e0 ps lb gi pb m cb vk vc its ks kv2 cs2 co W' := by
  obtain ⟨es, c, h0⟩ := h0
  obtain ⟨⟨xl, hxl⟩, xi, fi, hxi⟩ := h.lex.cells
  exact { lex := h.lex.keep (hk _ (ne_of_map hxl h0)) (hk _ (ne_of_map hxi h0)), err := (hk _ (ne_of_map h.err h0)).trans h.err, par := (hk _ (ne_of_map h.par h0)).trans h.par, obj := (hk _ (ne_of_map h.obj h0)).trans h.obj,
          mm := hm, mn := hn, cc := hc, cn := hcn,
          keys := owns_of h.keys fun g hg => by
            obtain ⟨y, fz, hy⟩ := own_kind h.keys hg
            exact hk _ (ne_of_map hy h0),
          coms := owns_of h.coms fun g hg => by
            obtain ⟨y, fz, hy⟩ := own_kind h.coms hg
            exact hk _ (ne_of_map hy h0),
          apart := h.apart, mc := h.mc, base := h.base }
theorem PS.putM (h : PS B e0 ps lb gi pb m cb vk vc its ks kv cs co W) (k v : List UInt8) :
    ∃ W1, (Instr.mapUpdate 60 (.map (some m)) (.string (txt k)) (.string (txt v))).run Tryz.prog W = .ok () W1 ∧ PS B e0 ps lb gi pb m cb vk vc its ks (updA kv (k, v)) cs co W1 ∧ Below B W W1 ∧ W1.heap.size = W.heap.size ∧ ∀ r, r ≠ m → W1.heap[r]? = W.heap[r]? := by
  obtain ⟨W1, h1, h2, h3, h4, h5⟩ := putw (P := Tryz.prog) 60 9 9 m (sV kv) (k, .string (txt v)) B h.base.2.2.2.1 Tryz.underlying60 Tryz.underlying9 h.mm (by rw [sV_fst]; exact h.mn)
  obtain ⟨arr, c, hm⟩ := h.mm.cells
  refine ⟨W1, h1, h.map ⟨arr, c, hm⟩ h3 (by rw [sV_upd]; exact h2) (updA_nodup h.mn _) (h.cc.keep (h3 _ h.mc.symm) fun g y fz hg a b => ⟨h3 _ (ne_of_map hg hm), a, b⟩) h.cn, h5, h4, h3⟩
theorem PS.putC (h : PS B e0 ps lb gi pb m cb vk vc its ks kv cs co W) (hB : B ≤ W.heap.size) (hco : co ≠ []) (k : List UInt8) :
    ∃ W1, (Instr.mapUpdate 61 (.map (some cb)) (.string (txt k)) vc).run Tryz.prog W = .ok () W1 ∧ PS B e0 ps lb gi pb m cb vk (.slice (some ⟨W1.heap.size, 0, none⟩) 0 0) its ks kv (updA cs (k, co)) [] (W1.alloc (.cells #[] 9)) ∧ Below B W W1 ∧ W1.heap.size = W.heap.size ∧ ∀ r, r ≠ cb → W1.heap[r]? = W.heap[r]? := by
  obtain ⟨cw, hc1, hc2, hc3⟩ := h.cc
  have hfst : ((cw.map fun q => (q.1, q.2.2)) : KW).map Prod.fst = cs.map Prod.fst := by rw [hc1, List.map_map, List.map_map]; rfl
  obtain ⟨W1, h1, h2, h3, h4, h5⟩ := putw (P := Tryz.prog) 61 9 34 cb (cw.map fun q => (q.1, q.2.2)) (k, vc) B h.base.2.2.2.2 Tryz.underlying61 Tryz.underlying9 hc2 (by rw [hfst]; exact h.cn)
  obtain ⟨arr, c, hcb⟩ := hc2.cells
  refine ⟨W1, h1, ?_, h5, h4, h3⟩
  have hvk : ∀ {g : Nat} {y : Array Value} {fz : Nat × Nat}, W.heap[g]? = some (.cells y 9 fz) → (Value.slice (some ⟨W1.heap.size, 0, none⟩) 0 0).ownBlock ≠ some g := fun hg e => by
    have hl := lt_of_some hg
    simp [Value.ownBlock] at e
    omega
  have al : ∀ r, r < W.heap.size → (W1.alloc (Obj.cells #[] 9)).heap[r]? = W1.heap[r]? := fun r hr => al_old _ _ _ (by rw [h4]; exact hr)
  have hh : ∀ {g : Nat} {y : Array Value} {fz : Nat × Nat}, W.heap[g]? = some (.cells y 9 fz) → (W1.alloc (.cells #[] 9)).heap[g]? = W.heap[g]? := fun hg => (al _ (lt_of_some hg)).trans (h3 _ (ne_of_map hg hcb))
  obtain ⟨⟨xl, hxl⟩, xi, fi, hxi⟩ := h.lex.cells
  have s : ∀ {r : Nat} {o : Obj}, W.heap[r]? = some o → r ≠ cb → (W1.alloc (.cells #[] 9)).heap[r]? = some o := fun hr hne => (al _ (lt_of_some hr)).trans ((h3 _ hne).trans hr)
  have hnew := al_new W1 (Obj.cells #[] 9) W1.heap.size rfl
  exact { lex := h.lex.keep ((al _ (lt_of_some hxl)).trans (h3 _ (ne_of_map hxl hcb))) ((al _ (lt_of_some hxi)).trans (h3 _ (ne_of_map hxi hcb))),
          err := s h.err (ne_of_map h.err hcb), par := s h.par (ne_of_map h.par hcb), obj := s h.obj (ne_of_map h.obj hcb),
          mm := h.mm.of ((al _ h.mm.lt).trans (h3 _ h.mc)), mn := h.mn,
          cc := by
            refine ⟨updA cw (k, (co, vc)), ?_, ?_, ?_⟩
            · rw [hc1]; exact (updA_map Prod.fst cw (k, (co, vc))).symm
            · have e : (updA cw (k, (co, vc))).map (fun q => (q.1, q.2.2)) = updA (cw.map fun q => (q.1, q.2.2)) (k, vc) := updA_map Prod.snd cw (k, (co, vc))
              rw [e]
              exact h2.of (al _ hc2.lt)
            · intro x hx
              rcases updA_mem hx with rfl | hx
              · rcases h.coms.2 with ⟨_, h0⟩ | ⟨g, cap, cur, hv, hBg, hg, hcap, _, hcs, ht⟩
                · exact absurd (List.length_eq_zero_iff.1 h0) hco
                · have hvo : vc.ownBlock = some g := by rw [hv]; rfl
                  refine ⟨g, 0, cap, cur, (0, 0), hv, hcap, (hh hg).trans hg, fun e => h.apart g e hvo, hvk hg, fun j y hj => ?_⟩
                  rw [Nat.zero_add, ← Array.getElem?_toList]
                  have h9 : (strsV co)[j]? = some (.string (txt y)) := by simp [strsV, hj]
                  rw [← ht, List.getElem?_take] at h9
                  split at h9
                  · exact h9
                  · cases h9
              · obtain ⟨g, o, cap, cur, fz, e, hc, hg, hk, hv, hy⟩ := hc3 x hx
                exact ⟨g, o, cap, cur, fz, e, hc, (hh hg).trans hg, hk, hvk hg, hy⟩,
          cn := updA_nodup h.cn _,
          keys := owns_of h.keys fun g hg => by
            obtain ⟨y, fz, hy⟩ := own_kind h.keys hg
            exact hh hy,
          coms := ⟨rfl, .inr ⟨W1.heap.size, 0, #[], rfl, by omega, hnew, Nat.le_refl _, by unfold maxLen; omega, rfl, rfl⟩⟩,
          apart := fun g hg hv => by
            obtain ⟨y, fz, hy⟩ := own_kind h.keys hg
            exact hvk hy hv,
          mc := h.mc, base := h.base }
theorem PS.look (h : PS B e0 ps lb gi pb m cb vk vc its ks kv cs co W) (k : List UInt8) : ∃ z, (Instr.lookup 60 (.map (some m)) (.string (txt k)) true).run Tryz.prog W = .ok (.tuple #[z, .bool (decide (k ∈ kv.map Prod.fst))]) W := by
  by_cases hk : k ∈ kv.map Prod.fst
  · obtain ⟨p, hp, rfl⟩ := List.mem_map.1 hk
    refine ⟨.string (txt p.2), ?_⟩
    rw [decide_eq_true hk]
    exact (lookw_hit (P := Tryz.prog) 60 9 9 m (sV kv) p.1 (.string (txt p.2)) Tryz.underlying60 Tryz.underlying9 h.mm (by rw [sV_fst]; exact h.mn) (List.mem_map.2 ⟨p, hp, rfl⟩)).1
  · refine ⟨.string ⟨#[]⟩, ?_⟩
    rw [decide_eq_false hk]
    exact (lookw_miss (P := Tryz.prog) 60 9 9 m (sV kv) k (.string ⟨#[]⟩) Tryz.underlying60 Tryz.underlying9 (by kernel_rfl) h.mm (fun p hp e => hk (by rw [← sV_fst]; exact List.mem_map.2 ⟨p, hp, e⟩))).1
end
end Go.Proofs.YtdfhidnhkeapbaaGreatDoor
