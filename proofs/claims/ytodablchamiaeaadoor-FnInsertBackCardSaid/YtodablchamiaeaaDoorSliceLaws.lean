/- The laws FnSliceParts and FnInsertBack: their walks. -/
import Derived.Test.YtodablchamiaeaaDoorSlice
namespace Go.Proofs.YtodablchamiaeaaDoor
open Go.RowKit U8
open Go.Lib hiding intOf

theorem chain {w a b : World} (h : Below w.heap.size w a) (k : Below a.heap.size a b) : Below w.heap.size w b := h.trans (k.mono h.size)

theorem enc_take_drop (rs : List Nat) (k : Nat) : txt (enc (rs.take k)) ++ txt (enc (rs.drop k)) = txt (enc rs) := by rw [txt_append, ← enc_append, List.take_append_drop]

set_option maxHeartbeats 1600000 in
theorem law_sliceParts (s : ByteArray) (i : Int) (w : World) (hsz : s.size ≤ 140737488351232) (hi0 : -9223372036854775808 ≤ i) (hi1 : i ≤ 9223372036854775807) (hT : Tabs w) :
    Calls Tryd.prog 7 #[.string s, .int .i64 i] w fun e w' => e = .returned (.bool true) ∧ Below w.heap.size w w' := by
  by_cases hbig : 2147483647 < s.size
  · go_enter Tryd.func7, Tryd.ntmps7
    go_wp2
    go_ret
    exact ⟨rfl, Below.refl _ _⟩
  have hle : s.size ≤ 2147483647 := by omega
  rcases ok_cases s with hok | ⟨rs, hs, rfl, hlen, hok⟩
  · go_enter Tryd.func7, Tryd.ntmps7
    go_wp2_with (first
      | (go_at_call 26; refine (slice_hello _ hT).mono ?_; rintro e w1 ⟨rfl, hb1⟩)
      | (go_at_call 17; refine (valid_no s _ hle hok (hT.below hb1)).mono ?_; rintro e w2 ⟨rfl, hb2⟩))
    go_ret
    exact ⟨rfl, chain hb1 hb2⟩
  have hl : rs.length ≤ 4096 := by have := enc_length_ge rs; omega
  have HV := Lib.hid fun W (h : Tabs W) => valid_yes rs W hlen hok h
  clear hok hbig hsz
  by_cases hneg : i < 0
  · go_enter Tryd.func7, Tryd.ntmps7
    go_wp2_with (first
      | (go_at_call 26; refine (slice_hello _ hT).mono ?_; rintro e w1 ⟨rfl, hb1⟩)
      | (go_at_call 17; refine (HV.out _ (hT.below hb1)).mono ?_; rintro e w2 ⟨rfl, hb2⟩))
    go_ret
    exact ⟨rfl, chain hb1 hb2⟩
  by_cases hgt : (rs.length : Int) < i
  · go_enter Tryd.func7, Tryd.ntmps7
    go_wp2_with (first
      | (go_at_call 26; refine (slice_hello _ hT).mono ?_; rintro e w1 ⟨rfl, hb1⟩)
      | (go_at_call 17; refine (HV.out _ (hT.below hb1)).mono ?_; rintro e w2 ⟨rfl, hb2⟩)
      | (go_at_call 27; refine (implLen_any rs _ hs (by omega)).mono ?_; rintro e w3 ⟨rfl, hb3⟩))
    go_ret
    exact ⟨rfl, chain (chain hb1 hb2) hb3⟩
  obtain ⟨k, rfl⟩ : ∃ k : Nat, i = k := ⟨i.toNat, by omega⟩
  have hk : k ≤ rs.length := by omega
  have hsum : (txt (enc (rs.take k))).size + (txt (enc (rs.drop k))).size ≤ 10000 := by
    have := enc_take_drop rs k
    have := congrArg ByteArray.size this
    rw [ByteArray.size_append, txt_size, txt_size, txt_size] at this
    rw [txt_size, txt_size]; omega
  have HE := Lib.hid (enc_take_drop rs k)
  have htl : (rs.take k).length = k := by rw [List.length_take, Nat.min_eq_left hk]
  have hel := enc_take_le rs k
  clear hneg hgt
  go_enter Tryd.func7, Tryd.ntmps7
  go_wp2_with fail
  refine (slice_hello _ hT).mono ?_
  rintro e w1 ⟨rfl, hb1⟩
  go_wp2_with fail
  refine (HV.out _ (hT.below hb1)).mono ?_
  rintro e w2 ⟨rfl, hb2⟩
  have hc2 := chain hb1 hb2
  go_wp2_with fail
  refine (implLen_any rs _ hs (by omega)).mono ?_
  rintro e w3 ⟨rfl, hb3⟩
  have hc3 := chain hc2 hb3
  go_wp2_with fail
  refine (implSlice_to rs k _ hs (by omega) hk (hT.below hc3)).mono ?_
  rintro e w4 ⟨rfl, hb4⟩
  have hc4 := chain hc3 hb4
  go_wp2_with fail
  refine (implSlice_end rs k _ hs (by omega) hk (hT.below hc4)).mono ?_
  rintro e w5 ⟨rfl, hb5⟩
  have hc5 := chain hc4 hb5
  have he := HE.out
  go_wp2_with fail
  have hL := implLen_any (rs.take k) w5 (hs.take k) (by omega)
  rw [htl] at hL
  refine hL.mono ?_
  rintro e w6 ⟨rfl, hb6⟩
  go_wp2
  go_ret
  exact ⟨rfl, chain hc5 hb6⟩

set_option maxHeartbeats 800000 in
theorem insert_any (rs qs : List Nat) (i : Nat) (w : World) (hs : Scs rs) (hl : (enc rs).length ≤ 100000) (hlq : (enc qs).length ≤ 100000) (hi : i ≤ rs.length) (hT : Tabs w) :
    Calls Tryd.prog 59 #[.string (txt (enc rs)), .string (txt (enc qs)), .int .i64 i] w fun e w' => e = .returned (.string (txt (enc (rs.take i ++ qs ++ rs.drop i)))) ∧ Below w.heap.size w w' := by
  have h1 := enc_take_le rs i
  have h0 : (enc (rs.take i)).length + (enc (rs.drop i)).length = (enc rs).length := by
    rw [← List.length_append, ← enc_append, List.take_append_drop]
  have hs1 : (txt (enc (rs.take i))).size + (txt (enc qs)).size ≤ 1000000 := by rw [txt_size, txt_size]; omega
  have hs2 : (txt (enc (rs.take i))).size + (txt (enc qs)).size + (txt (enc (rs.drop i))).size ≤ 1000000 := by rw [txt_size, txt_size, txt_size]; omega
  have c1 : ∀ W, Tabs W → Calls Tryd.prog 56 #[.string (txt (enc rs)), .int .i64 0, .int .i64 i] W fun e w' => e = .returned (.string (txt (enc (rs.take i)))) ∧ Below W.heap.size W w' := fun W h => by
    have c := slice_mid rs 0 i W hs (by omega) (by omega) h
    rw [show ((0 : Nat) : Int) + i = i by omega] at c
    exact c
  have HC := Lib.hid c1
  clear c1
  go_enter Tryd.func59, Tryd.ntmps59
  go_wp2_with fail
  refine (HC.out _ hT).mono ?_
  rintro e w1 ⟨rfl, hb1⟩
  go_wp2_with fail
  refine (slice_end rs i _ hs (by omega) hi (hT.below hb1)).mono ?_
  rintro e w2 ⟨rfl, hb2⟩
  go_wp2
  go_ret
  exact ⟨ret_str (by rw [txt_append, txt_append, enc_append, enc_append]), chain hb1 hb2⟩

/-- The deferred closure of Insert's wrapper, where nothing has panicked: it does nothing. -/
theorem insert_idle (p q : Addr) (w : World) :
    CallsD Tryd.prog 58 #[.pointer (some p), .pointer (some q)] .returning w fun e u' w' => e = .returned (.tuple #[]) ∧ u' = .returning ∧ w' = w := by
  refine callsD_of_wpS Tryd.func58 rfl fun c₀ cs hu => ?_
  apply wpS_seq
  apply wpS_region
  simp [wpOpsS, go_sem, recoverD, hu, Tryd.ntmps58, Exit.thenS]
  refine wpS_cond (t := false) (by simp [Act.eval, Array.replicate]) ?_
  simp only [Bool.false_eq_true, if_false]
  refine wpS_of_wp (wp_skip ?_)
  cases c₀
  simp_all [bodyPostS, results, Tryd.results58]

set_option maxHeartbeats 800000 in
theorem implInsert_of (s q r : ByteArray) (i : Int) (w : World)
    (h : ∀ W : World, Below w.heap.size w W → Calls Tryd.prog 59 #[.string s, .string q, .int .i64 i] W fun e w' => e = .returned (.string r) ∧ Below W.heap.size W w') :
    Calls Tryd.prog 28 #[.string s, .string q, .int .i64 i] w fun e w' => e = .returned (.tuple #[.string r, .bool true]) ∧ Below w.heap.size w w' := by
  have hmf : ∀ (fn : Fn) (first cap : Array Value) (w : World), (Instr.makeFunc fn first cap).run Tryd.prog w = .ok (.func fn first cap) w := fun _ _ _ _ => rfl
  have HH := Lib.hid h
  clear h
  go_enter_defers Tryd.func28, Tryd.ntmps28
  go_wp2_with fail
  refine (HH.out _ (((Below.refl _ _).alloc (Nat.le_refl _) _).alloc (by simp) _)).mono ?_
  rintro e W1 ⟨rfl, hb1⟩
  have hz := hb1.size
  simp only [World.size_alloc] at hz
  have hbw : Below w.heap.size w W1 := (((Below.refl _ _).alloc (Nat.le_refl _) _).alloc (by simp) _).trans (hb1.mono (by simp; omega))
  have c0 : W1.cell? ⟨w.heap.size, 0, none⟩ = some (.string ⟨#[]⟩) := by
    rw [hb1.cell (by simp; omega)]; simp [go_sem]
  have c1 : W1.cell? ⟨w.heap.size + 1, 0, none⟩ = some (.bool false) := by
    rw [hb1.cell (by simp)]; simp [go_sem]
  have f0 : W1.frozen? ⟨w.heap.size, 0, none⟩ = false := by
    rw [hb1.frozen (by simp; omega)]; simp [go_sem]
  have f1 : W1.frozen? ⟨w.heap.size + 1, 0, none⟩ = false := by
    rw [hb1.frozen (by simp)]; simp [go_sem]
  clear hb1
  go_wp2
  refine leaves_cons (f := 58) (args := #[.pointer (some ⟨w.heap.size, 0, none⟩), .pointer (some ⟨w.heap.size + 1, 0, none⟩)]) (by simp) (by simp [go_sem]) ?_
  refine (insert_idle ⟨w.heap.size, 0, none⟩ ⟨w.heap.size + 1, 0, none⟩ _).mono ?_
  rintro e u' w'' ⟨rfl, rfl, rfl⟩
  have d0 : ((W1.setCell ⟨w.heap.size, 0, none⟩ (.string r)).setCell ⟨w.heap.size + 1, 0, none⟩ (.bool true)).cell? ⟨w.heap.size, 0, none⟩ = some (.string r) := by
    rw [World.cell?_setCell_other _ _ _ _ (by simp)]
    exact World.cell?_setCell_same _ _ _ c0
  have d1 : ((W1.setCell ⟨w.heap.size, 0, none⟩ (.string r)).setCell ⟨w.heap.size + 1, 0, none⟩ (.bool true)).cell? ⟨w.heap.size + 1, 0, none⟩ = some (.bool true) := by
    have h1 : (W1.setCell ⟨w.heap.size, 0, none⟩ (.string r)).cell? ⟨w.heap.size + 1, 0, none⟩ = some (.bool false) := by
      rw [World.cell?_setCell_other _ _ _ _ (by simp)]
      exact c1
    exact World.cell?_setCell_same _ _ _ h1
  have hfin : Below w.heap.size w ((W1.setCell ⟨w.heap.size, 0, none⟩ (.string r)).setCell ⟨w.heap.size + 1, 0, none⟩ (.bool true)) :=
    (hbw.setCell (p := ⟨w.heap.size, 0, none⟩) (Nat.le_refl _) _).setCell (p := ⟨w.heap.size + 1, 0, none⟩) (Nat.le_succ _) _
  simp [Leaves, settle, results, Tryd.results28, go_sem, d0, d1]
  exact hfin

theorem implInsert_any (rs qs : List Nat) (i : Nat) (w : World) (hs : Scs rs) (hl : (enc rs).length ≤ 100000) (hlq : (enc qs).length ≤ 100000) (hi : i ≤ rs.length) (hT : Tabs w) :
    Calls Tryd.prog 28 #[.string (txt (enc rs)), .string (txt (enc qs)), .int .i64 i] w fun e w' => e = .returned (.tuple #[.string (txt (enc (rs.take i ++ qs ++ rs.drop i))), .bool true]) ∧ Below w.heap.size w w' :=
  implInsert_of _ _ _ _ w fun W hb => insert_any rs qs i W hs hl hlq hi (hT.below hb)
theorem insert_ac (w : World) (hT : Tabs w) :
    Calls Tryd.prog 28 #[.string ⟨#[97, 99]⟩, .string ⟨#[98]⟩, .int .i64 1] w fun e w' => e = .returned (.tuple #[.string ⟨#[97, 98, 99]⟩, .bool true]) ∧ Below w.heap.size w w' :=
  implInsert_any [97, 99] [98] 1 w (by decide) (by decide) (by decide) (by decide) hT

set_option maxHeartbeats 1600000 in
theorem law_insertBack (s q : ByteArray) (i : Int) (w : World) (hsz : s.size ≤ 140737488351232) (hqz : q.size ≤ 140737488351232) (hi0 : -9223372036854775808 ≤ i) (hi1 : i ≤ 9223372036854775807) (hT : Tabs w) :
    Calls Tryd.prog 8 #[.string s, .string q, .int .i64 i] w fun e w' => e = .returned (.bool true) ∧ Below w.heap.size w w' := by
  by_cases hbig : 2147483647 < s.size
  · go_enter Tryd.func8, Tryd.ntmps8
    go_wp2
    go_ret
    exact ⟨rfl, Below.refl _ _⟩
  have hle : s.size ≤ 2147483647 := by omega
  by_cases hbig2 : 2147483647 < q.size
  · go_enter Tryd.func8, Tryd.ntmps8
    go_wp2
    go_ret
    exact ⟨rfl, Below.refl _ _⟩
  have hle2 : q.size ≤ 2147483647 := by omega
  clear hbig hbig2 hsz hqz
  rcases ok_cases s with hok | ⟨rs, hs, rfl, hlen, hok⟩
  · go_enter Tryd.func8, Tryd.ntmps8
    go_wp2_with (first
      | (go_at_call 28; refine (insert_ac _ hT).mono ?_; rintro e w1 ⟨rfl, hb1⟩)
      | (go_at_call 17; refine (valid_no s _ hle hok (hT.below hb1)).mono ?_; rintro e w2 ⟨rfl, hb2⟩))
    go_ret
    exact ⟨rfl, chain hb1 hb2⟩
  have hl : rs.length ≤ 4096 := by have := enc_length_ge rs; omega
  have HV := Lib.hid fun W (h : Tabs W) => valid_yes rs W hlen hok h
  clear hok
  rcases ok_cases q with hok | ⟨qs, hq, rfl, hlenq, hok⟩
  · go_enter Tryd.func8, Tryd.ntmps8
    go_wp2_with (first
      | (go_at_call 28; refine (insert_ac _ hT).mono ?_; rintro e w1 ⟨rfl, hb1⟩)
      | (go_at_call_of 17 (Value.string (txt (enc rs))); refine (HV.out _ (hT.below hb1)).mono ?_; rintro e w2 ⟨rfl, hb2⟩)
      | (go_at_call 17; refine (valid_no q _ hle2 hok (hT.below (chain hb1 hb2))).mono ?_; rintro e w3 ⟨rfl, hb3⟩))
    go_ret
    exact ⟨rfl, chain (chain hb1 hb2) hb3⟩
  have hlq : qs.length ≤ 4096 := by have := enc_length_ge qs; omega
  have HW := Lib.hid fun W (h : Tabs W) => valid_yes qs W hlenq hok h
  clear hok
  by_cases hneg : i < 0
  · go_enter Tryd.func8, Tryd.ntmps8
    go_wp2_with fail
    refine (insert_ac _ hT).mono ?_
    rintro e w1 ⟨rfl, hb1⟩
    go_wp2_with fail
    refine (HV.out _ (hT.below hb1)).mono ?_
    rintro e w2 ⟨rfl, hb2⟩
    go_wp2_with fail
    refine (HW.out _ (hT.below (chain hb1 hb2))).mono ?_
    rintro e w3 ⟨rfl, hb3⟩
    go_wp2
    go_ret
    exact ⟨rfl, chain (chain hb1 hb2) hb3⟩
  by_cases hgt : (rs.length : Int) < i
  · go_enter Tryd.func8, Tryd.ntmps8
    go_wp2_with fail
    refine (insert_ac _ hT).mono ?_
    rintro e w1 ⟨rfl, hb1⟩
    go_wp2_with fail
    refine (HV.out _ (hT.below hb1)).mono ?_
    rintro e w2 ⟨rfl, hb2⟩
    go_wp2_with fail
    refine (HW.out _ (hT.below (chain hb1 hb2))).mono ?_
    rintro e w3 ⟨rfl, hb3⟩
    go_wp2_with fail
    refine (implLen_any rs _ hs (by omega)).mono ?_
    rintro e w4 ⟨rfl, hb4⟩
    go_wp2
    go_ret
    exact ⟨rfl, chain (chain (chain hb1 hb2) hb3) hb4⟩
  obtain ⟨k, rfl⟩ : ∃ k : Nat, i = k := ⟨i.toNat, by omega⟩
  have hk : k ≤ rs.length := by omega
  have h0 : (enc (rs.take k)).length + (enc (rs.drop k)).length = (enc rs).length := by
    rw [← List.length_append, ← enc_append, List.take_append_drop]
  have hsum : (txt (enc (rs.take k))).size + (txt (enc (rs.drop k))).size ≤ 10000 := by rw [txt_size, txt_size]; omega
  have HE := Lib.hid (enc_take_drop rs k)
  have htl : (rs.take k).length = k := by rw [List.length_take, Nat.min_eq_left hk]
  clear hneg hgt
  obtain ⟨ts, hts⟩ : ∃ ts, rs.take k ++ qs ++ rs.drop k = ts := ⟨_, rfl⟩
  have ht : Scs ts := hts ▸ ((hs.take k).app hq).app (hs.drop k)
  have hte : (enc ts).length ≤ 10000 := by rw [← hts, enc_append, enc_append, List.length_append, List.length_append]; omega
  have htn : ts.length = rs.length + qs.length := by
    rw [← hts, List.length_append, List.length_append, List.length_drop, htl]; omega
  have t1 : ts.take k = rs.take k := by rw [← hts, List.append_assoc, List.take_append_of_le_length (by omega), List.take_of_length_le (by omega)]
  have t2 : (ts.drop k).take qs.length = qs := by
    rw [← hts, List.append_assoc, List.drop_append_of_le_length (by omega), List.drop_of_length_le (by omega), List.nil_append, List.take_append_of_le_length (Nat.le_refl _), List.take_length]
  have t3 : ts.drop (k + qs.length) = rs.drop k := by
    rw [← hts, List.drop_append_of_le_length (by rw [List.length_append, htl]; exact Nat.le_refl _), List.drop_of_length_le (by rw [List.length_append, htl]; exact Nat.le_refl _), List.nil_append]
  have cI := Lib.hid fun W (h : Tabs W) => hts ▸ implInsert_any rs qs k W hs (by omega) (by omega) hk h
  have cX := Lib.hid fun W (h : Tabs W) => t2 ▸ implSlice_mid ts k qs.length W ht (by omega) (by omega) h
  have cA := Lib.hid fun W (h : Tabs W) => t1 ▸ implSlice_to ts k W ht (by omega) (by omega) h
  have cB := Lib.hid fun W (h : Tabs W) => t3 ▸ implSlice_end ts (k + qs.length) W ht (by omega) (by omega) h
  clear t1 t2 t3 hts
  go_enter Tryd.func8, Tryd.ntmps8
  go_wp2_with fail
  refine (insert_ac _ hT).mono ?_
  rintro e w1 ⟨rfl, hb1⟩
  go_wp2_with fail
  refine (HV.out _ (hT.below hb1)).mono ?_
  rintro e w2 ⟨rfl, hb2⟩
  have hc2 := chain hb1 hb2
  go_wp2_with fail
  refine (HW.out _ (hT.below hc2)).mono ?_
  rintro e w3 ⟨rfl, hb3⟩
  have hc3 := chain hc2 hb3
  go_wp2_with fail
  refine (implLen_any rs _ hs (by omega)).mono ?_
  rintro e w4 ⟨rfl, hb4⟩
  have hc4 := chain hc3 hb4
  go_wp2_with fail
  refine (cI.out _ (hT.below hc4)).mono ?_
  rintro e w5 ⟨rfl, hb5⟩
  have hc5 := chain hc4 hb5
  go_wp2_with fail
  refine (implLen_any qs _ hq (by omega)).mono ?_
  rintro e w6 ⟨rfl, hb6⟩
  have hc6 := chain hc5 hb6
  go_wp2_with fail
  refine (cX.out _ (hT.below hc6)).mono ?_
  rintro e w7 ⟨rfl, hb7⟩
  have hc7 := chain hc6 hb7
  go_wp2_with fail
  refine (cA.out _ (hT.below hc7)).mono ?_
  rintro e w8 ⟨rfl, hb8⟩
  have hc8 := chain hc7 hb8
  go_wp2_with fail
  refine (cB.out _ (hT.below hc8)).mono ?_
  rintro e w9 ⟨rfl, hb9⟩
  have hc9 := chain hc8 hb9
  have he := HE.out
  go_wp2
  go_ret
  exact ⟨rfl, hc9⟩

end Go.Proofs.YtodablchamiaeaaDoor
