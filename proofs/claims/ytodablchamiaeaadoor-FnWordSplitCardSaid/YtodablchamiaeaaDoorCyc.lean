/- Plain lemmas: a list repeated without end, cut at a length. No program is in sight. -/
import Derived.Test.YtodablchamiaeaaDoorU8
namespace Go.Proofs.YtodablchamiaeaaDoor.U8

def cyc (p : List Nat) (n : Nat) : List Nat := (List.range n).map fun i => p.getD (i % p.length) 0
theorem cyc_length (p : List Nat) (n : Nat) : (cyc p n).length = n := by simp [cyc]
theorem cyc_zero (p : List Nat) : cyc p 0 = [] := rfl
theorem cyc_succ (p : List Nat) (n : Nat) : cyc p (n + 1) = cyc p n ++ [p.getD (n % p.length) 0] := by simp [cyc, List.range_succ]
theorem cyc_small (p : List Nat) (n : Nat) (h : n ≤ p.length) : cyc p n = p.take n := by
  apply List.ext_getElem?
  intro i
  unfold cyc
  rw [List.getElem?_map, List.getElem?_take]
  by_cases hi : i < n
  · rw [List.getElem?_range hi, if_pos hi, Option.map_some, Nat.mod_eq_of_lt (by omega), List.getElem?_eq_getElem (by omega)]
    simp [List.getD, List.getElem?_eq_getElem (show i < p.length by omega)]
  · rw [List.getElem?_eq_none (by simp; omega), if_neg hi]; rfl
theorem cyc_add (p : List Nat) (n : Nat) : cyc p (p.length + n) = p ++ cyc p n := by
  unfold cyc
  rw [List.range_add, List.map_append, List.map_map]
  have h1 : (List.range p.length).map (fun i => p.getD (i % p.length) 0) = p := by
    have := cyc_small p p.length (Nat.le_refl _)
    unfold cyc at this
    rw [this, List.take_length]
  rw [h1]
  congr 1
  apply List.map_congr_left
  intro i _
  simp
theorem cyc_split (p : List Nat) (hp : 0 < p.length) (q : Nat) : ∀ n, n / p.length = q → cyc p n = (List.replicate q p).flatten ++ p.take (n % p.length) := by
  induction q with
  | zero =>
    intro n hn
    have h := (Nat.div_eq_zero_iff_lt hp).1 hn
    rw [Nat.mod_eq_of_lt h, cyc_small p n (by omega)]; rfl
  | succ q ih =>
    intro n hn
    have hge : p.length ≤ n := by
      rcases Nat.lt_or_ge n p.length with h | h
      · rw [Nat.div_eq_of_lt h] at hn; omega
      · exact h
    obtain ⟨m, rfl⟩ : ∃ m, n = p.length + m := ⟨n - p.length, by omega⟩
    have hm : m / p.length = q := by
      rw [Nat.add_div_left _ hp] at hn; omega
    rw [cyc_add, ih m hm, Nat.add_mod_left, List.replicate_succ, List.flatten_cons, List.append_assoc]
theorem cyc_scs (p : List Nat) (hp : Scs p) (hl : 0 < p.length) (n : Nat) : Scs (cyc p n) := by
  intro x hx
  obtain ⟨i, _, rfl⟩ := List.mem_map.1 hx
  have h : i % p.length < p.length := Nat.mod_lt _ hl
  have e : p.getD (i % p.length) 0 = p[i % p.length] := by simp [List.getD, List.getElem?_eq_getElem h]
  rw [e]
  exact hp _ (List.getElem_mem h)
theorem enc_flatten (q : Nat) (p : List Nat) : enc (List.replicate q p).flatten = (List.replicate q (enc p)).flatten := by
  induction q with
  | zero => rfl
  | succ q ih => rw [List.replicate_succ, List.flatten_cons, enc_append, ih, List.replicate_succ, List.flatten_cons]

end Go.Proofs.YtodablchamiaeaaDoor.U8
