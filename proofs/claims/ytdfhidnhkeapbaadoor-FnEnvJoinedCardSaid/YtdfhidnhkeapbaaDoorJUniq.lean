/- Plain: two texts, one behind the other, are read as both. No program is in sight. -/
import Derived.Test.YtdfhidnhkeapbaaDoorJHelp2
import Derived.Sort.Walk0
namespace Go.Proofs.YtdfhidnhkeapbaaDoor
open Go.RowKit U8
open Go.Lib hiding intOf

theorem mapOf_mem (l : KVs) (x : List UInt8 × List UInt8) : x ∈ mapOf l ↔ x ∈ lasts l := (mapOf_perm l).mem_iff
theorem mapOf_keys (l : KVs) : ((mapOf l).map Prod.fst).Nodup := foldl_keys l [] List.nodup_nil
theorem lasts_has : ∀ (l : KVs) (k : List UInt8), k ∈ l.map Prod.fst → k ∈ (lasts l).map Prod.fst
  | [], _, h => by cases h
  | p :: l, k, h => by
    rw [lasts_cons]
    rw [List.map_cons, List.mem_cons] at h
    split
    · rename_i hp
      rcases h with rfl | h
      · exact lasts_has l _ hp
      · exact lasts_has l _ h
    · rw [List.map_cons, List.mem_cons]
      rcases h with rfl | h
      · exact .inl rfl
      · exact .inr (lasts_has l _ h)
theorem sort_keys {kv X : KVs} (hk : (kv.map Prod.fst).Nodup) (h : SortP kv X) : (X.map Prod.fst).Nodup ∧ ∀ x, x ∈ X ↔ x ∈ kv := by
  have hp : (X.map Prod.fst).Perm (kv.map Prod.fst) := by rw [h.1]; exact List.mergeSort_perm _ _
  have hn : (X.map Prod.fst).Nodup := hp.nodup_iff.2 hk
  refine ⟨hn, fun x => ⟨h.2 x, fun hx => ?_⟩⟩
  have h1 : x.1 ∈ X.map Prod.fst := hp.mem_iff.2 (List.mem_map.2 ⟨x, hx, rfl⟩)
  obtain ⟨q, hq, e⟩ := List.mem_map.1 h1
  have hqk := h.2 q hq
  have : q = x := by
    clear h1 hp hn h
    induction kv with
    | nil => cases hx
    | cons a t ih =>
      rw [List.map_cons, List.nodup_cons] at hk
      rcases List.mem_cons.1 hqk with e1 | h1
      · rcases List.mem_cons.1 hx with e2 | h2
        · rw [e1, e2]
        · exact absurd (List.mem_map.2 ⟨x, h2, by rw [← e, e1]⟩) hk.1
      · rcases List.mem_cons.1 hx with e2 | h2
        · exact absurd (List.mem_map.2 ⟨q, h1, by rw [e, e2]⟩) hk.1
        · exact ih hk.2 h2 h1
  rw [← this]
  exact hq
theorem sort_asc {kv X : KVs} (hk : (kv.map Prod.fst).Nodup) (h : SortP kv X) : AscK X := by
  have hn := (sort_keys hk h).1
  have hs : (X.map Prod.fst).Pairwise (fun a b => Op.bytesLess a b = true) := by
    have hp := List.pairwise_mergeSort (le := fun x y : List UInt8 => decide (x ≤ y)) (fun a b c h1 h2 => by
      simp only [decide_eq_true_eq] at h1 h2 ⊢
      exact List.le_trans h1 h2) (fun a b => by
      simp only [Bool.or_eq_true, decide_eq_true_eq]
      exact List.le_total a b) (kv.map Prod.fst)
    rw [← h.1] at hp
    have hb := hp.and hn
    refine hb.imp fun {a b} hab => ?_
    cases hl : Op.bytesLess a b with
    | true => rfl
    | false =>
      have h2 := less_total a b hab.2 hl
      rw [bytesLess_eq] at h2
      have h3 := hab.1
      simp only [decide_eq_true_eq] at h2 h3
      exact absurd h2 (List.not_lt.2 h3)
  exact List.pairwise_map.1 hs
theorem asc_uniq {a b : KVs} (ha : AscK a) (hb : AscK b) (h : a.Perm b) : a = b :=
  List.Perm.eq_of_pairwise (le := fun (p q : List UInt8 × List UInt8) => Op.bytesLess p.1 q.1 = true) (fun p q _ _ h1 h2 => by
    have := less_trans _ _ _ h1 h2
    rw [less_irrefl] at this
    cases this) (show a.Pairwise (fun p q => Op.bytesLess p.1 q.1 = true) from ha) (show b.Pairwise (fun p q => Op.bytesLess p.1 q.1 = true) from hb) h
theorem joined_eq {pa pb X Y Z M : KVs} (hX : SortP (mapOf pa) X) (hY : SortP (mapOf pb) Y) (hZ : SortP (mapOf (pa ++ pb)) Z) (hM : M.Perm (lasts (X ++ Y))) (hA : AscK M) : Z = M := by
  obtain ⟨hxn, hxm⟩ := sort_keys (mapOf_keys pa) hX
  obtain ⟨hyn, hym⟩ := sort_keys (mapOf_keys pb) hY
  obtain ⟨hzn, hzm⟩ := sort_keys (mapOf_keys (pa ++ pb)) hZ
  refine asc_uniq (sort_asc (mapOf_keys _) hZ) hA ?_
  refine (perm_of_mem hzn (by
    have := (lasts_keys (X ++ Y)).1
    exact (hM.map Prod.fst).nodup_iff.2 this) fun x => ?_)
  rw [hzm, hM.mem_iff, ← mapOf_mem]
  have e1 : mapOf (pa ++ pb) = pb.foldl upd (mapOf pa) := List.foldl_append ..
  have e2 : mapOf (X ++ Y) = Y.foldl upd (mapOf X) := List.foldl_append ..
  rw [e1, e2, foldl_mem, foldl_mem, mapOf_mem X, lasts_self X hxn, lasts_self Y hyn, hxm, hym, mapOf_mem pb]
  have hkey : x.1 ∈ pb.map Prod.fst ↔ x.1 ∈ Y.map Prod.fst := by
    constructor
    · intro h
      obtain ⟨q, hq, e⟩ := List.mem_map.1 (lasts_has pb _ h)
      exact List.mem_map.2 ⟨q, (hym q).2 ((mapOf_mem pb q).2 hq), e⟩
    · intro h
      obtain ⟨q, hq, e⟩ := List.mem_map.1 h
      exact List.mem_map.2 ⟨q, (lasts_keys pb).2 q ((mapOf_mem pb q).1 ((hym q).1 hq)), e⟩
  rw [hkey]
theorem good_of {l : List UInt8} (hp : plB l = true) (hm : meanB l = false) : (∀ x ∈ l, GoodB x) ∧ l.length ≤ 4096 := by
  unfold plB at hp
  rw [Bool.and_eq_true] at hp
  unfold meanB at hm
  simp only [Bool.or_eq_false_iff] at hm
  obtain ⟨⟨⟨m1, m2⟩, m3⟩, m4⟩ := hm
  refine ⟨fun x hx => ?_, of_decide_eq_true hp.2⟩
  have ne : ∀ c, hasB l c = false → x.toNat ≠ c := fun c h e => by
    unfold hasB at h
    rw [List.any_eq_false] at h
    exact h x hx (by simpa using e)
  exact ⟨of_decide_eq_true (List.all_eq_true.1 hp.1 x hx), ne _ m1, ne _ m3, ne _ m2, ne _ m4⟩
theorem pairs_ab : pairsS [65, 61, 98] = some [([65], [98])] := by decide +kernel
end Go.Proofs.YtdfhidnhkeapbaaDoor
