/- Plain laws: the cases of ASCII, and turns of the alphabet, as translators. No program is in sight. -/
import Derived.Test.YtbomlhhpokknaaaDoorTrLaws
namespace Go.Proofs.YtbomlhhpokknaaaDoor
open Go.Lib U8

instance : DecidableEq Tr := fun a b => decidable_of_iff (a.dict = b.dict ∧ a.rmap = b.rmap ∧ a.rgs = b.rgs ∧ a.sing = b.sing) ⟨fun h => by cases a; cases b; simp_all, fun h => by rw [h]; exact ⟨rfl, rfl, rfl, rfl⟩⟩
instance : DecidableEq Tx := fun a b => decidable_of_iff (a.T = b.T ∧ a.mapped = b.mapped ∧ a.rev = b.rev ∧ a.del = b.del ∧ a.has = b.has) ⟨fun h => by cases a; cases b; simp_all, fun h => by rw [h]; exact ⟨rfl, rfl, rfl, rfl, rfl⟩⟩

/-- Two ranges, the second one counts first. -/
def rotX (a b c d e f g h : Int) : Tx := ⟨⟨none, none, [(a, b, c, d), (e, f, g, h)], []⟩, -1, false, false, true⟩
def oneX (a b c d : Int) : Tx := ⟨⟨none, none, [(a, b, c, d)], []⟩, -1, false, false, true⟩
def azC : List UInt8 := [97, 45, 122]
def AZC : List UInt8 := [65, 45, 90]
def turnC (k : Nat) : List UInt8 := [(97 + k).toUInt8, 45, 122, 97, 45, (96 + k).toUInt8]
theorem new_up : newTr azC AZC = oneX 97 122 65 90 := by decide +kernel
theorem new_lo : newTr AZC azC = oneX 65 90 97 122 := by decide +kernel
theorem new_sw : newTr (azC ++ AZC) (AZC ++ azC) = rotX 97 122 65 90 65 90 97 122 := by decide +kernel
theorem new_turn : ∀ k : Nat, k < 25 → 2 ≤ k → newTr azC (turnC k) = rotX 97 (122 - k) (97 + k) 122 (123 - k) 122 97 (96 + k) := by decide +kernel
theorem new_back : ∀ k : Nat, k < 25 → 2 ≤ k → newTr (turnC k) azC = rotX (97 + k) 122 97 (122 - k) 97 (96 + k) (123 - k) 122 := by decide +kernel
theorem new_del : newTr azC [] = ⟨⟨none, none, [(97, 122, 65533, 65533)], []⟩, 65533, false, true, true⟩ := by decide +kernel

theorem one_look (a b c d r : Int) : (oneX a b c d).T.look r = if a ≤ r ∧ r ≤ b then some (rngAt (a, b, c, d) r) else none := by
  unfold Tr.look oneX
  simp [rlook]
theorem rot_look (a b c d e f g h r : Int) : (rotX a b c d e f g h).T.look r = if e ≤ r ∧ r ≤ f then some (rngAt (e, f, g, h) r) else if a ≤ r ∧ r ≤ b then some (rngAt (a, b, c, d) r) else none := by
  unfold Tr.look rotX
  simp [rlook]
theorem res_some (X : Tx) (v r : Int) (h1 : X.rev = false) (h2 : X.mapped = -1) : X.res (some v) r = v := by
  unfold Tx.res
  rw [h1, h2]
  simp
/-- A text of characters, each with its own rune. -/
theorem map_of (X : Tx) (φ : Nat → Nat) (hr : X.rev = false) (hm : X.mapped = -1) (hh : X.has = true) (hd : X.del = false) (h : ∀ r : Nat, Sc r → X.T.look r = some (φ r : Int) ∨ (X.T.look r = none ∧ φ r = r)) (rs : List Nat) (hs : Scs rs) : X.text (enc rs) = enc (rs.map φ) := by
  refine text_map X φ rs hs hh hd (fun r hrr hit => ?_) (fun r hrr hit => ?_)
  · unfold Tx.hit at hit
    rw [hr] at hit
    rcases h r (hs r hrr) with e | ⟨e, _⟩
    · show X.res (X.T.look r) r = _
      rw [e, res_some X _ _ hr hm]
    · rw [e] at hit; cases hit
  · unfold Tx.hit at hit
    rw [hr] at hit
    rcases h r (hs r hrr) with e | ⟨_, e⟩
    · rw [e] at hit; cases hit
    · exact e
theorem one_in {a b c d r : Int} (h1 : a ≤ r ∧ r ≤ b) (v : Int) (hv : rngAt (a, b, c, d) r = v) : (oneX a b c d).T.look r = some v := by rw [one_look, if_pos h1, hv]
theorem one_out {a b c d r : Int} (h1 : ¬ (a ≤ r ∧ r ≤ b)) : (oneX a b c d).T.look r = none := by rw [one_look, if_neg h1]
theorem rot_two {a b c d e f g h r : Int} (h1 : e ≤ r ∧ r ≤ f) (v : Int) (hv : rngAt (e, f, g, h) r = v) : (rotX a b c d e f g h).T.look r = some v := by rw [rot_look, if_pos h1, hv]
theorem rot_one {a b c d e f g h r : Int} (h0 : ¬ (e ≤ r ∧ r ≤ f)) (h1 : a ≤ r ∧ r ≤ b) (v : Int) (hv : rngAt (a, b, c, d) r = v) : (rotX a b c d e f g h).T.look r = some v := by rw [rot_look, if_neg h0, if_pos h1, hv]
theorem rot_out {a b c d e f g h r : Int} (h0 : ¬ (e ≤ r ∧ r ≤ f)) (h1 : ¬ (a ≤ r ∧ r ≤ b)) : (rotX a b c d e f g h).T.look r = none := by rw [rot_look, if_neg h0, if_neg h1]
theorem rng_up {a b c d r v : Int} (h : c < d) (hv : v = c + r - a) : rngAt (a, b, c, d) r = v := by unfold rngAt; dsimp only; rw [if_pos h, hv]
def upN (r : Nat) : Nat := if 97 ≤ r ∧ r ≤ 122 then r - 32 else r
def loN (r : Nat) : Nat := if 65 ≤ r ∧ r ≤ 90 then r + 32 else r
def swN (r : Nat) : Nat := if 97 ≤ r ∧ r ≤ 122 then r - 32 else if 65 ≤ r ∧ r ≤ 90 then r + 32 else r
theorem up_text (rs : List Nat) (hs : Scs rs) : (newTr azC AZC).text (enc rs) = enc (rs.map upN) := by
  rw [new_up]
  refine map_of _ upN rfl rfl rfl rfl (fun r _ => ?_) rs hs
  unfold upN
  by_cases c : 97 ≤ r ∧ r ≤ 122
  · rw [if_pos c]; exact .inl (one_in (by omega) _ (rng_up (by omega) (by omega)))
  · rw [if_neg c]; exact .inr ⟨one_out (by omega), rfl⟩
theorem lo_text (rs : List Nat) (hs : Scs rs) : (newTr AZC azC).text (enc rs) = enc (rs.map loN) := by
  rw [new_lo]
  refine map_of _ loN rfl rfl rfl rfl (fun r _ => ?_) rs hs
  unfold loN
  by_cases c : 65 ≤ r ∧ r ≤ 90
  · rw [if_pos c]; exact .inl (one_in (by omega) _ (rng_up (by omega) (by omega)))
  · rw [if_neg c]; exact .inr ⟨one_out (by omega), rfl⟩
theorem sw_text (rs : List Nat) (hs : Scs rs) : (newTr (azC ++ AZC) (AZC ++ azC)).text (enc rs) = enc (rs.map swN) := by
  rw [new_sw]
  refine map_of _ swN rfl rfl rfl rfl (fun r _ => ?_) rs hs
  unfold swN
  by_cases c : 97 ≤ r ∧ r ≤ 122
  · rw [if_pos c]; exact .inl (rot_one (by omega) (by omega) _ (rng_up (by omega) (by omega)))
  · rw [if_neg c]
    by_cases c2 : 65 ≤ r ∧ r ≤ 90
    · rw [if_pos c2]; exact .inl (rot_two (by omega) _ (rng_up (by omega) (by omega)))
    · rw [if_neg c2]; exact .inr ⟨rot_out (by omega) (by omega), rfl⟩
/-- The turn by k. -/
def tuN (k r : Nat) : Nat := if 97 ≤ r ∧ r ≤ 122 then (if r + k ≤ 122 then r + k else r + k - 26) else r
def baN (k r : Nat) : Nat := if 97 ≤ r ∧ r ≤ 122 then (if 97 + k ≤ r then r - k else r + 26 - k) else r
theorem tu_text (k : Nat) (h1 : 2 ≤ k) (h2 : k < 25) (rs : List Nat) (hs : Scs rs) : (newTr azC (turnC k)).text (enc rs) = enc (rs.map (tuN k)) := by
  rw [new_turn k h2 h1]
  refine map_of _ (tuN k) rfl rfl rfl rfl (fun r _ => ?_) rs hs
  unfold tuN
  by_cases c : 97 ≤ r ∧ r ≤ 122
  · rw [if_pos c]
    by_cases c2 : r + k ≤ 122
    · rw [if_pos c2]; exact .inl (rot_one (by omega) (by omega) _ (rng_up (by omega) (by omega)))
    · rw [if_neg c2]; exact .inl (rot_two (by omega) _ (rng_up (by omega) (by omega)))
  · rw [if_neg c]; exact .inr ⟨rot_out (by omega) (by omega), rfl⟩
theorem ba_text (k : Nat) (h1 : 2 ≤ k) (h2 : k < 25) (rs : List Nat) (hs : Scs rs) : (newTr (turnC k) azC).text (enc rs) = enc (rs.map (baN k)) := by
  rw [new_back k h2 h1]
  refine map_of _ (baN k) rfl rfl rfl rfl (fun r _ => ?_) rs hs
  unfold baN
  by_cases c : 97 ≤ r ∧ r ≤ 122
  · rw [if_pos c]
    by_cases c2 : 97 + k ≤ r
    · rw [if_pos c2]; exact .inl (rot_one (by omega) (by omega) _ (rng_up (by omega) (by omega)))
    · rw [if_neg c2]; exact .inl (rot_two (by omega) _ (rng_up (by omega) (by omega)))
  · rw [if_neg c]; exact .inr ⟨rot_out (by omega) (by omega), rfl⟩
theorem tuN_sc {k r : Nat} (h2 : k < 25) (h : Sc r) : Sc (tuN k r) := by
  unfold tuN
  split
  · unfold Sc; split <;> omega
  · exact h
theorem ba_tu {k r : Nat} (h1 : 2 ≤ k) (h2 : k < 25) : baN k (tuN k r) = r := by
  unfold tuN baN
  by_cases c : 97 ≤ r ∧ r ≤ 122
  · rw [if_pos c]
    split
    · rw [if_pos (by omega), if_pos (by omega)]; omega
    · rw [if_pos (by omega), if_neg (by omega)]; omega
  · rw [if_neg c, if_neg c]
theorem tu_hit {k r : Nat} (h2 : k < 25) : (97 ≤ tuN k r ∧ tuN k r ≤ 122) ↔ (97 ≤ r ∧ r ≤ 122) := by
  unfold tuN
  split
  · split <;> omega
  · exact Iff.rfl
def isaz (r : Nat) : Bool := decide (97 ≤ r ∧ r ≤ 122)
theorem del_hit (r : Nat) : (newTr azC []).hit r = isaz r := by
  rw [new_del]
  unfold Tx.hit Tr.look isaz
  simp [rlook]
  by_cases c : 97 ≤ r ∧ r ≤ 122
  · rw [if_pos (by omega)]; simp [c]
  · rw [if_neg (by omega)]; simp; omega
theorem del_text (rs : List Nat) (hs : Scs rs) : (newTr azC []).text (enc rs) = enc (rs.filter fun r => !isaz r) := by
  refine (text_del _ rs hs (by rw [new_del]) (by rw [new_del])).trans ?_
  congr 2; funext r; rw [del_hit]
theorem del_count (rs : List Nat) (hs : Scs rs) : (newTr azC []).count (enc rs) = rs.countP isaz := by
  rw [count_enc _ rs hs]
  congr 1; funext r; exact del_hit r
theorem map_scs {k : Nat} (h2 : k < 25) {rs : List Nat} (hs : Scs rs) : Scs (rs.map (tuN k)) := fun r hr => by
  obtain ⟨x, hx, rfl⟩ := List.mem_map.1 hr
  exact tuN_sc h2 (hs x hx)
theorem tu_isaz {k : Nat} (h2 : k < 25) (r : Nat) : isaz (tuN k r) = isaz r := by
  unfold isaz
  exact decide_eq_decide.2 (tu_hit h2)
theorem tu_count {k : Nat} (h2 : k < 25) (rs : List Nat) : (rs.map (tuN k)).countP isaz = rs.countP isaz := by
  rw [List.countP_map]
  congr 1; funext r; exact tu_isaz h2 r
theorem tu_filter {k : Nat} (h2 : k < 25) : ∀ rs : List Nat, (rs.map (tuN k)).filter (fun r => !isaz r) = rs.filter fun r => !isaz r
  | [] => rfl
  | r :: rs => by
    rw [List.map_cons, List.filter_cons, List.filter_cons, tu_filter h2 rs, tu_isaz h2]
    cases h : isaz r with
    | true => rfl
    | false =>
      have : tuN k r = r := by unfold tuN; unfold isaz at h; rw [if_neg (of_decide_eq_false h)]
      rw [this]
theorem tu_back {k : Nat} (h1 : 2 ≤ k) (h2 : k < 25) (rs : List Nat) : (rs.map (tuN k)).map (baN k) = rs := by
  rw [List.map_map]
  exact (List.map_congr_left fun r _ => ba_tu h1 h2).trans (List.map_id rs)
theorem tu_len {k : Nat} (h2 : k < 25) : ∀ rs : List Nat, (enc (rs.map (tuN k))).length = (enc rs).length
  | [] => rfl
  | r :: rs => by
    rw [List.map_cons, enc_cons, enc_cons, List.length_append, List.length_append, tu_len h2 rs]
    congr 1
    unfold tuN
    split
    · rename_i c
      rw [show (enc1 r).length = 1 by rw [enc1_a (by omega)]; rfl]
      split <;> (rw [enc1_a (by omega)]; rfl)
    · rfl

/-! ### bytes -/
theorem enc1_hi {r : Nat} (h : 128 ≤ r) (hs : Sc r) : ∀ b ∈ enc1 r, 128 ≤ b.toNat := by
  unfold Sc at hs
  intro b hb
  by_cases h2 : r < 2048
  · rw [enc1_b h h2] at hb
    simp only [List.mem_cons, List.not_mem_nil, or_false] at hb
    rcases hb with rfl | rfl
    · rw [byte_of (n := 192 + r / 64) (by omega) (by omega)]; omega
    · rw [byte_of (n := 128 + r % 64) (by omega) (by omega)]; omega
  by_cases h3 : r < 65536
  · rw [enc1_c (by omega)] at hb
    simp only [List.mem_cons, List.not_mem_nil, or_false] at hb
    rcases hb with rfl | rfl | rfl
    · rw [byte_of (n := 224 + r / 4096) (by omega) (by omega)]; omega
    · rw [byte_of (n := 128 + r / 64 % 64) (by omega) (by omega)]; omega
    · rw [byte_of (n := 128 + r % 64) (by omega) (by omega)]; omega
  · rw [enc1_d (by omega) (by omega)] at hb
    simp only [List.mem_cons, List.not_mem_nil, or_false] at hb
    rcases hb with rfl | rfl | rfl | rfl
    · rw [byte_of (n := 240 + r / 262144) (by omega) (by omega)]; omega
    · rw [byte_of (n := 128 + r / 4096 % 64) (by omega) (by omega)]; omega
    · rw [byte_of (n := 128 + r / 64 % 64) (by omega) (by omega)]; omega
    · rw [byte_of (n := 128 + r % 64) (by omega) (by omega)]; omega
/-- A change of ASCII alone is the change of its bytes. -/
theorem enc_bytes (φ : Nat → Nat) (f : UInt8 → UInt8) (h1 : ∀ r, 128 ≤ r → φ r = r) (h2 : ∀ r, r < 128 → φ r < 128 ∧ (f r.toUInt8) = (φ r).toUInt8) (h3 : ∀ b : UInt8, 128 ≤ b.toNat → f b = b) : ∀ rs : List Nat, Scs rs → enc (rs.map φ) = (enc rs).map f
  | [], _ => rfl
  | r :: rs, h => by
    rw [List.map_cons, enc_cons, enc_cons, List.map_append, enc_bytes φ f h1 h2 h3 rs h.tail]
    congr 1
    by_cases c : r < 128
    · obtain ⟨c1, c2⟩ := h2 r c
      rw [enc1_a c1, enc1_a c]
      simp only [List.map_cons, List.map_nil, Int.toNat_natCast]
      rw [c2]
    · rw [h1 r (by omega)]
      exact ((List.map_congr_left fun b hb => h3 b (enc1_hi (by omega) h.head b hb)).trans (List.map_id _)).symm

end Go.Proofs.YtbomlhhpokknaaaDoor
