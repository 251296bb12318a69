/- impl.ReadEnv at texts without dollar signs, quotes and returns. Conditions: such texts; their length; the table unicode.properties. -/
import Derived.Test.YtdfhidnhkeapbaaDoorJRead
namespace Go.Proofs.YtdfhidnhkeapbaaDoor
open Go.RowKit U8
open Go.Lib hiding intOf

theorem lasts_le : ∀ l : KVs, (lasts l).length ≤ l.length
  | [] => Nat.le_refl _
  | p :: l => by
    rw [lasts_cons]
    have := lasts_le l
    split
    · rw [List.length_cons]; omega
    · rw [List.length_cons, List.length_cons]; omega
theorem mapOf_le (l : KVs) : (mapOf l).length ≤ l.length := by rw [(mapOf_perm l).length_eq]; exact lasts_le l
theorem pairs_le : ∀ (n : Nat) (s : List UInt8), s.length < n → ∀ ps, pairsS s = some ps → ps.length ≤ s.length
  | 0, _, h => by omega
  | n + 1, s, h => by
    intro ps hp
    cases hs : startS s with
    | none => rw [pairsS_none hs] at hp; cases hp; exact Nat.zero_le _
    | some r =>
      have hr := (start_is _ s (Nat.lt_succ_self _) r hs).2.length_le
      cases hl : locS r with
      | none => rw [pairsS_err hs hl] at hp; cases hp
      | some q =>
        obtain ⟨k, l⟩ := q
        have h2 := (loc_len hl).1
        rw [pairsS_some hs hl] at hp
        cases hq : pairsS (l.dropWhile notNl) with
        | none => rw [hq] at hp; cases hp
        | some y =>
          rw [hq] at hp
          cases hp
          have := pairs_le n _ (by omega) y hq
          rw [List.length_cons]; omega
/-- How UnmarshalBytes ends. -/
def UnP (l : List UInt8) (w : World) (e : Ending) (w' : World) : Prop :=
  ((pairsS l = none ∧ ∃ m ev, e = .returned (.tuple #[.map (some m), .iface 97 (.pointer (some ⟨ev, 0, none⟩))])) ∨ ∃ ps m, pairsS l = some ps ∧ e = .returned (.tuple #[.map (some m), .nilIface]) ∧ MB m (kvV (mapOf ps)) w') ∧ Below w.heap.size w w'
set_option maxRecDepth 100000 in
theorem ub_any (l : List UInt8) (g cap : Nat) (w : World) (hB : Bz w (some ⟨g, 0, none⟩) cap l) (hg : ∀ x ∈ l, GoodB x) (hl : l.length ≤ 1000000) (hT : Pt w) :
    Calls Tryd.prog 23 #[.slice (some ⟨g, 0, none⟩) l.length cap] w (UnP l w) := by
  have hal := (Below.refl w.heap.size w).alloc (Nat.le_refl _) (.map #[] 0)
  have C := Lib.hid (par_any l g cap w.heap.size w.heap.size (w.alloc (.map #[] 0)) (hB.below hal) hg hl ⟨#[], 0, heap_alloc_new w _, rfl, by simp, fun x hx => by simp at hx⟩ (Nat.le_refl _) (hT.below hal))
  have HAL := Lib.hid hal
  have hmm := @run_makeMap Tryd.prog
  obtain ⟨R, hR⟩ : ∃ R, pairsS l = R := ⟨_, rfl⟩
  have HQ : Hid (∀ e W, UnP l w e W = (((R = none ∧ ∃ m ev, e = .returned (.tuple #[.map (some m), .iface 97 (.pointer (some ⟨ev, 0, none⟩))])) ∨ ∃ ps m, R = some ps ∧ e = .returned (.tuple #[.map (some m), .nilIface]) ∧ MB m (kvV (mapOf ps)) W) ∧ Below w.heap.size w W)) := fun e W => by unfold UnP; rw [hR]
  obtain ⟨Q, hQ⟩ : ∃ Q, UnP l w = Q := ⟨_, rfl⟩
  rw [hR] at C
  rw [hQ] at HQ ⊢
  clear hal hB hg hT hR hQ
  go_enter Tryd.func23, Tryd.ntmps23
  go_wp2_with fail
  refine C.out.mono ?_
  rintro e w1 ⟨⟨hn, ev, rfl⟩ | ⟨ps, hs, rfl, hm⟩, hb⟩
  · have HF : Hid (Q (.returned (.tuple #[.map (some w.heap.size), .iface 97 (.pointer (some ⟨ev, 0, none⟩))])) w1) := by
      show Q _ _
      rw [HQ.out]
      exact ⟨.inl ⟨hn, _, ev, rfl⟩, HAL.out.trans hb⟩
    clear hn hb
    go_wp2
    first | exact HF.out | (go_ret2; exact HF.out)
  · have HF : Hid (Q (.returned (.tuple #[.map (some w.heap.size), .nilIface])) w1) := by
      show Q _ _
      rw [HQ.out]
      exact ⟨.inr ⟨ps, _, hs, rfl, hm⟩, HAL.out.trans hb⟩
    clear hs hm hb
    go_wp2
    first | exact HF.out | (go_ret2; exact HF.out)
set_option maxRecDepth 100000 in
theorem un_any (l : List UInt8) (w : World) (hg : ∀ x ∈ l, GoodB x) (hl : l.length ≤ 1000000) (hT : Pt w) :
    Calls Tryd.prog 17 #[.string (txt l)] w (UnP l w) := by
  have hb := bytesWorld_below (Below.refl w.heap.size w) (Nat.le_refl _) 5 (txt l)
  have C := Lib.hid (ub_any l w.heap.size (grownCap w l.length 0 5) (bytesWorld w 5 (txt l)) (bz_bytes w l) hg hl (hT.below hb))
  have hcv := run_text_bytes w (txt l)
  rw [txt_size] at hcv
  have HQ : Hid (∀ v1 v2 W, UnP l (bytesWorld w 5 (txt l)) (.returned (.tuple #[v1, v2])) W → UnP l w (.returned (.tuple #[v1, v2])) W) := fun v1 v2 W h => ⟨h.1, hb.trans (h.2.mono (by rw [bytesWorld_size]; omega))⟩
  have C2 : Hid (Calls Tryd.prog 23 #[.slice (some ⟨w.heap.size, 0, none⟩) l.length (grownCap w l.length 0 5)] (bytesWorld w 5 (txt l)) fun e w' => ∃ v1 v2, e = .returned (.tuple #[v1, v2]) ∧ UnP l (bytesWorld w 5 (txt l)) (.returned (.tuple #[v1, v2])) w') := by
    refine C.out.mono ?_
    intro e w' h
    rcases h.1 with ⟨_, m, ev, rfl⟩ | ⟨ps, m, _, rfl, _⟩
    · exact ⟨_, _, rfl, h⟩
    · exact ⟨_, _, rfl, h⟩
  obtain ⟨Q, hQ⟩ : ∃ Q, UnP l w = Q := ⟨_, rfl⟩
  rw [hQ] at HQ ⊢
  clear hb hg hT hQ C
  go_enter Tryd.func17, Tryd.ntmps17
  go_wp2_with (go_at_call 23; refine C2.out.mono ?_; rintro e w1 ⟨v1, v2, rfl, hu⟩)
  have hf := HQ.out _ _ _ hu
  first | exact hf | (go_ret2; exact hf)
/-- How ReadEnv ends. -/
def ReP (l : List UInt8) (w : World) (e : Ending) (w' : World) : Prop :=
  ((pairsS l = none ∧ e = .returned (.tuple #[.slice none 0 0, .bool false])) ∨ ∃ (ps X : KVs) (xo : Option Addr) (xc : Nat), pairsS l = some ps ∧ e = .returned (.tuple #[.slice xo X.length xc, .bool true]) ∧ w'.ownsRow w.heap.size 36 2 (.slice xo X.length xc) X.length (X.flatMap pcells) ∧ SortP (mapOf ps) X) ∧ Below w.heap.size w w'
set_option maxRecDepth 100000 in
theorem read_any (l : List UInt8) (w : World) (hg : ∀ x ∈ l, GoodB x) (hl : l.length ≤ 100000) (hT : Pt w) :
    Calls Tryd.prog 9 #[.string (txt l)] w (ReP l w) := by
  have C := Lib.hid (un_any l w hg (by omega) hT)
  have HE : Hid (pairsS l = none → ∀ W, Below w.heap.size w W → ReP l w (.returned (.tuple #[.slice none 0 0, .bool false])) W) := fun h W hb => ⟨.inl ⟨h, rfl⟩, hb⟩
  have HO : Hid (∀ (ps X : KVs) (xo : Option Addr) (xc : Nat) (W : World), pairsS l = some ps → W.ownsRow w.heap.size 36 2 (.slice xo X.length xc) X.length (X.flatMap pcells) → SortP (mapOf ps) X → Below w.heap.size w W → ReP l w (.returned (.tuple #[.slice xo X.length xc, .bool true])) W) := fun ps X xo xc W h1 h2 h3 h4 => ⟨.inr ⟨ps, X, xo, xc, h1, rfl, h2, h3⟩, h4⟩
  have HPL := Lib.hid fun ps h => pairs_le (l.length + 1) l (Nat.lt_succ_self _) ps h
  obtain ⟨Q, hQ⟩ : ∃ Q, ReP l w = Q := ⟨_, rfl⟩
  rw [hQ] at HE HO ⊢
  clear hg hT hQ
  go_enter Tryd.func9, Tryd.ntmps9
  go_wp2_with fail
  refine C.out.mono ?_
  rintro e w1 ⟨⟨hn, m, ev, rfl⟩ | ⟨ps, m, hs, rfl, hm⟩, hb⟩
  · have HF := Lib.hid (HE.out hn w1 hb)
    have hne : (binOp .neq 40 (.iface 97 (.pointer (some ⟨ev, 0, none⟩))) .nilIface).run Tryd.prog w1 = .ok (.bool true) w1 := by kernel_rfl
    clear hn hb
    go_wp2
    first | exact HF.out | (go_ret2; exact HF.out)
  · have hpl := HPL.out ps hs
    have hmo := mapOf_le ps
    have CS := Lib.hid (sorted_any m (mapOf ps) w1 hm (foldl_keys ps [] List.nodup_nil) (by omega))
    have hne : (binOp .neq 40 .nilIface .nilIface).run Tryd.prog w1 = .ok (.bool false) w1 := by kernel_rfl
    have HO2 := Lib.hid (HO.out ps)
    have HSS := Lib.hid hs
    have HBB := Lib.hid hb
    have hsz := hb.size
    clear hs hm hb
    go_wp2_with fail
    refine CS.out.mono ?_
    rintro e w2 ⟨⟨X, xo, xc, rfl, hown, hX⟩, hb2⟩
    have HF := Lib.hid (HO2.out X xo xc w2 HSS.out (owns_base hown hsz) hX (HBB.out.trans (hb2.mono hsz)))
    clear hown hX hb2
    go_wp2
    first | exact HF.out | (go_ret2; exact HF.out)
end Go.Proofs.YtdfhidnhkeapbaaDoor
