/- What a text becomes by two patterns: plain laws. No program is in sight. -/
import Derived.Test.YtbomlhhpokknaaaDoorTRuneL
namespace Go.Proofs.YtbomlhhpokknaaaDoor
open Go.Lib U8

theorem expF_scs : ∀ (f a b : Nat) (acc L : List Nat), Scs acc → a ≤ 1114111 → b ≤ 1114111 → expF f a b acc = some L → Scs L
  | 0, _, _, acc, L, hs, _, _, h => by cases h; exact hs
  | f + 1, a, b, acc, L, hs, ha, hb, h => by
    unfold expF at h
    by_cases e : a = b
    · rw [if_pos e] at h; cases h; exact hs
    · rw [if_neg e] at h
      have hx : (if a < b then a + 1 else a - 1) ≤ 1114111 := by split <;> omega
      generalize (if a < b then a + 1 else a - 1) = x at h hx
      by_cases s : sgt x = true
      · rw [if_pos s] at h; cases h
      · rw [if_neg s] at h
        refine expF_scs f x b _ L (hs.app ?_) hx hb h
        intro y hy
        simp at hy
        subst hy
        unfold sgt at s
        simp at s
        unfold Sc
        omega
theorem sc_le {c : Nat} (h : Sc c) : c ≤ 1114111 := by unfold Sc at h; omega
theorem scs_one {c : Nat} (h : Sc c) : Scs [c] := fun x hx => by simp at hx; subst hx; exact h
theorem last_le {acc : List Nat} (h : Scs acc) : acc.getLastD 0 ≤ 1114111 := by
  by_cases e : acc = []
  · subst e; simp
  · exact sc_le (h _ (getD_mem e))
theorem patF_scs (tt nt : Bool) : ∀ (f : Nat) (fi si : Bool) (acc l L : List Nat), Scs acc → Scs l → patF tt nt f fi si acc l = some L → Scs L
  | 0, fi, si, acc, l, L, ha, _, h => by rw [patF.eq_def] at h; cases h; exact ha
  | f + 1, fi, si, acc, [], L, ha, _, h => by rw [patF.eq_def] at h; cases h; exact ha
  | f + 1, fi, si, acc, c :: r, L, ha, hl, h => by
    rcases patF_inv h with ⟨_, d, r2, rfl, k⟩ | ⟨_, _, d, r2, acc2, rfl, _, _, he, k⟩ | ⟨rfl, k⟩ | ⟨_, _, k⟩
    · exact patF_scs tt nt f _ _ _ _ _ (ha.app (scs_one hl.tail.head)) hl.tail.tail k
    · exact patF_scs tt nt f _ _ _ _ _ (expF_scs _ _ _ _ _ ha (last_le ha) (sc_le hl.tail.head) he) hl.tail.tail k
    · exact patF_scs tt nt f _ _ _ _ _ (ha.app (scs_one hl.head)) hl.tail k
    · exact patF_scs tt nt f _ _ _ _ _ (ha.app (scs_one hl.head)) hl.tail k
theorem pat_scs {tt : Bool} {p L : List Nat} (hp : Scs p) (h : pat tt p = some L) : Scs L := by
  unfold pat at h
  split at h
  · split at h
    · cases h
    · exact patF_scs _ _ _ _ _ _ _ _ Scs.nil (hp.drop 1) h
  · exact patF_scs _ _ _ _ _ _ _ _ Scs.nil hp h
theorem nth_mem (M : List Nat) (hM : M ≠ []) (i : Nat) : ∃ y ∈ M, nth (cast M) i = (y : Int) := by
  have hl := List.length_pos_iff.2 hM
  have hi : min i (M.length - 1) < M.length := by omega
  exact ⟨M[min i (M.length - 1)], List.getElem_mem hi, nth_cast M i _ (List.getElem?_eq_getElem hi)⟩
theorem mapsays_sc {L M : List Nat} {nt : Bool} {c : Nat} {out : Int} {fnd : Bool} (hc : Sc c) (hM : Scs M) (hne : M ≠ []) (h : MapSays L nt M c out fnd) : ∃ y : Nat, out = (y : Int) ∧ Sc y := by
  rcases h with ⟨_, _, _, e⟩ | ⟨hnt, hf, h1, h2⟩
  · cases fnd with
    | true => obtain ⟨y, hy, e2⟩ := nth_mem M hne 0; exact ⟨y, by rw [e, ← e2]; rfl, hM y hy⟩
    | false => exact ⟨c, by rw [e]; rfl, hc⟩
  · cases fnd with
    | false => exact ⟨c, h1 rfl, hc⟩
    | true =>
      have hin : L.any (· == c) = true := by
        rw [hnt] at hf
        unfold inS at hf
        rw [Bool.bne_false] at hf
        exact hf.symm
      obtain ⟨x, hx, hxc⟩ := List.any_eq_true.1 hin
      have : x = c := by simpa using hxc
      subst this
      obtain ⟨i, hi⟩ := List.getElem?_of_mem hx
      obtain ⟨y, hy, e2⟩ := nth_mem M hne i
      exact ⟨y, by rw [h2 rfl i hi, e2], hM y hy⟩
theorem newTr_del (p q : List UInt8) (hq : q ≠ []) : (newTr p q).del = false := by
  unfold newTr
  split
  · rfl
  · exact decide_eq_false hq
def phi (X : Tx) (c : Nat) : Nat := ((X.trans (c : Int)).1).toNat
def Gd (X : Tx) (c : Nat) : Prop := (X.hit (c : Int) = true → (X.trans (c : Int)).1 = (phi X c : Int)) ∧ (X.hit (c : Int) = false → phi X c = c)
theorem gd_of {X : Tx} {c y : Nat} {out : Int} {fnd : Bool} (h1 : X.hit (c : Int) = fnd) (h2 : (X.trans (c : Int)).1 = out) (h3 : fnd = false → out = (c : Int)) (hy : out = (y : Int)) : y = phi X c ∧ Gd X c := by
  have e : phi X c = y := by unfold phi; rw [h2, hy]; rfl
  refine ⟨e.symm, fun _ => by rw [e, h2, hy], fun hf => ?_⟩
  rw [h1] at hf
  have := h3 hf
  rw [e]; omega
theorem trl_map (p q : List UInt8) (hq : q ≠ []) (rs : List Nat) (hs : Scs rs) (hG : ∀ r ∈ rs, Gd (newTr p q) r) : trl (enc rs) p q = enc (rs.map (phi (newTr p q))) := by
  unfold trl
  by_cases hp : p = []
  · have e : newTr p q = ⟨Tr.nil, 0, false, false, false⟩ := by unfold newTr; rw [if_pos hp]
    have hm : rs.map (phi (newTr p q)) = rs := by
      rw [List.map_congr_left (g := id), List.map_id]
      intro r hr
      refine (hG r hr).2 ?_
      rw [e]
      unfold Tx.hit
      have : Tr.nil.look (r : Int) = none := by unfold Tr.look Tr.nil; simp [rlook]
      dsimp only; rw [this]; rfl
    rw [hm]
    unfold Tx.text
    rw [e]; rfl
  · refine text_map _ _ rs hs ?_ (newTr_del p q hq) (fun r hr h => (hG r hr).1 h) (fun r hr h => (hG r hr).2 h)
    unfold newTr; rw [if_neg hp]
theorem trl_del (ps rs : List Nat) (hp : Scs ps) (hs : Scs rs) {L : List Nat} (h : pat false ps = some L) : trl (enc rs) (enc ps) [] = enc (rs.filter fun r => !inS L (notOf false ps) r) := by
  unfold trl
  by_cases he : ps = []
  · subst he
    have := pat_nil false h
    subst this
    have e : rs.filter (fun r => !inS [] (notOf false []) r) = rs := List.filter_eq_self.2 (fun r _ => rfl)
    rw [e]; rfl
  · obtain ⟨h1, h2⟩ := parts_has (enc ps) (enc_nonnil he)
    rw [text_del _ rs hs h1 h2]
    congr 2
    funext r
    rw [hit_law ps hp he h r]

end Go.Proofs.YtbomlhhpokknaaaDoor
