/- The laws FnLeftJustify, FnCenter and FnJustifyLen: their walks. -/
import Derived.Test.YtodablchamiaeaaDoorJust
namespace Go.Proofs.YtodablchamiaeaaDoor
open Go.RowKit U8
open Go.Lib hiding intOf

/-- How many characters of a pad are wanted. -/
def padN (rs ps : List Nat) (n : Int) : Nat := if ps = [] then 0 else (n - (rs.length : Int)).toNat
theorem padN_le (rs ps : List Nat) (n : Int) (h : n ≤ 2000) : padN rs ps n ≤ 2000 := by unfold padN; split <;> omega
theorem padN_short {rs ps : List Nat} {n : Int} (h : n ≤ rs.length) : padN rs ps n = 0 := by unfold padN; split <;> omega
theorem padN_empty (rs : List Nat) (n : Int) : padN rs [] n = 0 := rfl
theorem padN_some {rs ps : List Nat} (k : Nat) (h : ps ≠ []) : padN rs ps ((rs.length : Int) + k) = k := by unfold padN; rw [if_neg h]; omega
theorem cyc_nil (ps : List Nat) : cyc ps 0 = [] := rfl

theorem implLeftJustify_any (rs ps : List Nat) (n : Int) (w : World) (hs : Scs rs) (hp : Scs ps) (hl : (enc rs).length ≤ 10000) (hpl : (enc ps).length ≤ 10000) (hn : n ≤ 2000) (hT : Tabs w) :
    Calls Tryd.prog 30 #[.string (txt (enc rs)), .int .i64 n, .string (txt (enc ps))] w fun e w' => e = .returned (.string (txt (enc (rs ++ cyc ps (padN rs ps n))))) ∧ Below w.heap.size w w' := by
  have c : ∀ W, Tabs W → Calls Tryd.prog 60 #[.string (txt (enc rs)), .int .i64 n, .string (txt (enc ps))] W fun e w' => e = .returned (.string (txt (enc (rs ++ cyc ps (padN rs ps n))))) ∧ Below W.heap.size W w' := fun W h => by
    by_cases h1 : n ≤ rs.length
    · rw [padN_short h1]
      have := left_short rs (txt (enc ps)) n W hs hl h1
      simpa [cyc_nil] using this
    · by_cases h2 : ps = []
      · subst h2
        have := left_bare rs n W hs hl (by omega)
        rw [show txt (enc []) = (⟨#[]⟩ : ByteArray) from rfl]
        simpa [cyc_nil, padN_empty] using this
      · obtain ⟨k, rfl⟩ : ∃ k : Nat, n = (rs.length : Int) + k := ⟨(n - rs.length).toNat, by omega⟩
        rw [padN_some k h2]
        have := left_any rs ps k W hs hp h2 hl hpl (by omega) (by omega) h
        exact this
  have HC := Lib.hid c
  clear c
  go_enter Tryd.func30, Tryd.ntmps30
  go_wp2_with (go_at_call 60; refine (HC.out _ hT).mono ?_; rintro e w' ⟨rfl, hb⟩)
  go_ret
  exact ⟨rfl, hb⟩
theorem implLeftJustify_hello (w : World) (hT : Tabs w) :
    Calls Tryd.prog 30 #[.string ⟨#[104, 101, 108, 108, 111]⟩, .int .i64 10, .string ⟨#[49, 50, 51]⟩] w fun e w' => e = .returned (.string ⟨#[104, 101, 108, 108, 111, 49, 50, 51, 49, 50]⟩) ∧ Below w.heap.size w w' :=
  implLeftJustify_any [104, 101, 108, 108, 111] [49, 50, 51] 10 w (by decide) (by decide) (by decide) (by decide) (by decide) hT
theorem implLeftJustify_same (rs ps : List Nat) (n : Int) (w : World) (hs : Scs rs) (hp : Scs ps) (hl : (enc rs).length ≤ 10000) (hpl : (enc ps).length ≤ 10000) (hn : n ≤ 2000) (h0 : padN rs ps n = 0) (hT : Tabs w) :
    Calls Tryd.prog 30 #[.string (txt (enc rs)), .int .i64 n, .string (txt (enc ps))] w fun e w' => e = .returned (.string (txt (enc rs))) ∧ Below w.heap.size w w' := by
  have := implLeftJustify_any rs ps n w hs hp hl hpl hn hT
  rw [h0] at this
  simpa [cyc_nil] using this
theorem implLeftJustify_pad (rs ps : List Nat) (k : Nat) (w : World) (hs : Scs rs) (hp : Scs ps) (hl : (enc rs).length ≤ 10000) (hpl : (enc ps).length ≤ 10000) (hn : (rs.length : Int) + k ≤ 2000) (h0 : ps ≠ []) (hT : Tabs w) :
    Calls Tryd.prog 30 #[.string (txt (enc rs)), .int .i64 ((rs.length : Int) + k), .string (txt (enc ps))] w fun e w' => e = .returned (.string (txt (enc (rs ++ cyc ps (k))))) ∧ Below w.heap.size w w' := by
  have := implLeftJustify_any rs ps ((rs.length : Int) + k) w hs hp hl hpl hn hT
  rw [padN_some k h0] at this
  exact this

theorem implRightJustify_any (rs ps : List Nat) (n : Int) (w : World) (hs : Scs rs) (hp : Scs ps) (hl : (enc rs).length ≤ 10000) (hpl : (enc ps).length ≤ 10000) (hn : n ≤ 2000) (hT : Tabs w) :
    Calls Tryd.prog 41 #[.string (txt (enc rs)), .int .i64 n, .string (txt (enc ps))] w fun e w' => e = .returned (.string (txt (enc (cyc ps (padN rs ps n) ++ rs)))) ∧ Below w.heap.size w w' := by
  have c : ∀ W, Tabs W → Calls Tryd.prog 65 #[.string (txt (enc rs)), .int .i64 n, .string (txt (enc ps))] W fun e w' => e = .returned (.string (txt (enc (cyc ps (padN rs ps n) ++ rs)))) ∧ Below W.heap.size W w' := fun W h => by
    by_cases h1 : n ≤ rs.length
    · rw [padN_short h1]
      have := right_short rs (txt (enc ps)) n W hs hl h1
      simpa [cyc_nil] using this
    · by_cases h2 : ps = []
      · subst h2
        have := right_bare rs n W hs hl (by omega)
        rw [show txt (enc []) = (⟨#[]⟩ : ByteArray) from rfl]
        simpa [cyc_nil, padN_empty] using this
      · obtain ⟨k, rfl⟩ : ∃ k : Nat, n = (rs.length : Int) + k := ⟨(n - rs.length).toNat, by omega⟩
        rw [padN_some k h2]
        have := right_any rs ps k W hs hp h2 hl hpl (by omega) (by omega) h
        exact this
  have HC := Lib.hid c
  clear c
  go_enter Tryd.func41, Tryd.ntmps41
  go_wp2_with (go_at_call 65; refine (HC.out _ hT).mono ?_; rintro e w' ⟨rfl, hb⟩)
  go_ret
  exact ⟨rfl, hb⟩
theorem implRightJustify_hello (w : World) (hT : Tabs w) :
    Calls Tryd.prog 41 #[.string ⟨#[104, 101, 108, 108, 111]⟩, .int .i64 10, .string ⟨#[49, 50, 51]⟩] w fun e w' => e = .returned (.string ⟨#[49, 50, 51, 49, 50, 104, 101, 108, 108, 111]⟩) ∧ Below w.heap.size w w' :=
  implRightJustify_any [104, 101, 108, 108, 111] [49, 50, 51] 10 w (by decide) (by decide) (by decide) (by decide) (by decide) hT
theorem implRightJustify_same (rs ps : List Nat) (n : Int) (w : World) (hs : Scs rs) (hp : Scs ps) (hl : (enc rs).length ≤ 10000) (hpl : (enc ps).length ≤ 10000) (hn : n ≤ 2000) (h0 : padN rs ps n = 0) (hT : Tabs w) :
    Calls Tryd.prog 41 #[.string (txt (enc rs)), .int .i64 n, .string (txt (enc ps))] w fun e w' => e = .returned (.string (txt (enc rs))) ∧ Below w.heap.size w w' := by
  have := implRightJustify_any rs ps n w hs hp hl hpl hn hT
  rw [h0] at this
  simpa [cyc_nil] using this
theorem implRightJustify_pad (rs ps : List Nat) (k : Nat) (w : World) (hs : Scs rs) (hp : Scs ps) (hl : (enc rs).length ≤ 10000) (hpl : (enc ps).length ≤ 10000) (hn : (rs.length : Int) + k ≤ 2000) (h0 : ps ≠ []) (hT : Tabs w) :
    Calls Tryd.prog 41 #[.string (txt (enc rs)), .int .i64 ((rs.length : Int) + k), .string (txt (enc ps))] w fun e w' => e = .returned (.string (txt (enc (cyc ps (k) ++ rs)))) ∧ Below w.heap.size w w' := by
  have := implRightJustify_any rs ps ((rs.length : Int) + k) w hs hp hl hpl hn hT
  rw [padN_some k h0] at this
  exact this

theorem implCenter_any (rs ps : List Nat) (n : Int) (w : World) (hs : Scs rs) (hp : Scs ps) (hl : (enc rs).length ≤ 10000) (hpl : (enc ps).length ≤ 10000) (hn : n ≤ 2000) (hT : Tabs w) :
    Calls Tryd.prog 32 #[.string (txt (enc rs)), .int .i64 n, .string (txt (enc ps))] w fun e w' => e = .returned (.string (txt (enc (cyc ps (padN rs ps n / 2) ++ (rs ++ cyc ps ((padN rs ps n + 1) / 2)))))) ∧ Below w.heap.size w w' := by
  have c : ∀ W, Tabs W → Calls Tryd.prog 61 #[.string (txt (enc rs)), .int .i64 n, .string (txt (enc ps))] W fun e w' => e = .returned (.string (txt (enc (cyc ps (padN rs ps n / 2) ++ (rs ++ cyc ps ((padN rs ps n + 1) / 2)))))) ∧ Below W.heap.size W w' := fun W h => by
    by_cases h1 : n ≤ rs.length
    · rw [padN_short h1]
      have := center_short rs (txt (enc ps)) n W hs hl h1
      simpa [cyc_nil] using this
    · by_cases h2 : ps = []
      · subst h2
        have := center_bare rs n W hs hl (by omega)
        rw [show txt (enc []) = (⟨#[]⟩ : ByteArray) from rfl]
        simpa [cyc_nil, padN_empty] using this
      · obtain ⟨k, rfl⟩ : ∃ k : Nat, n = (rs.length : Int) + k := ⟨(n - rs.length).toNat, by omega⟩
        rw [padN_some k h2]
        have := center_any rs ps k W hs hp h2 hl hpl (by omega) (by omega) h
        rw [List.append_assoc] at this
        exact this
  have HC := Lib.hid c
  clear c
  go_enter Tryd.func32, Tryd.ntmps32
  go_wp2_with (go_at_call 61; refine (HC.out _ hT).mono ?_; rintro e w' ⟨rfl, hb⟩)
  go_ret
  exact ⟨rfl, hb⟩
theorem implCenter_hello (w : World) (hT : Tabs w) :
    Calls Tryd.prog 32 #[.string ⟨#[104, 101, 108, 108, 111]⟩, .int .i64 10, .string ⟨#[49, 50, 51]⟩] w fun e w' => e = .returned (.string ⟨#[49, 50, 104, 101, 108, 108, 111, 49, 50, 51]⟩) ∧ Below w.heap.size w w' :=
  implCenter_any [104, 101, 108, 108, 111] [49, 50, 51] 10 w (by decide) (by decide) (by decide) (by decide) (by decide) hT
theorem implCenter_same (rs ps : List Nat) (n : Int) (w : World) (hs : Scs rs) (hp : Scs ps) (hl : (enc rs).length ≤ 10000) (hpl : (enc ps).length ≤ 10000) (hn : n ≤ 2000) (h0 : padN rs ps n = 0) (hT : Tabs w) :
    Calls Tryd.prog 32 #[.string (txt (enc rs)), .int .i64 n, .string (txt (enc ps))] w fun e w' => e = .returned (.string (txt (enc rs))) ∧ Below w.heap.size w w' := by
  have := implCenter_any rs ps n w hs hp hl hpl hn hT
  rw [h0] at this
  simpa [cyc_nil] using this
theorem implCenter_pad (rs ps : List Nat) (k : Nat) (w : World) (hs : Scs rs) (hp : Scs ps) (hl : (enc rs).length ≤ 10000) (hpl : (enc ps).length ≤ 10000) (hn : (rs.length : Int) + k ≤ 2000) (h0 : ps ≠ []) (hT : Tabs w) :
    Calls Tryd.prog 32 #[.string (txt (enc rs)), .int .i64 ((rs.length : Int) + k), .string (txt (enc ps))] w fun e w' => e = .returned (.string (txt (enc (cyc ps (k / 2) ++ (rs ++ cyc ps ((k + 1) / 2)))))) ∧ Below w.heap.size w w' := by
  have := implCenter_any rs ps ((rs.length : Int) + k) w hs hp hl hpl hn hT
  rw [padN_some k h0] at this
  exact this

set_option maxHeartbeats 3200000 in
set_option maxRecDepth 100000 in
theorem law_LeftJustify (s : ByteArray) (n : Int) (p : ByteArray) (w : World) (hsz : s.size ≤ 140737488351232) (hn0 : -9223372036854775808 ≤ n) (hn1 : n ≤ 9223372036854775807) (hpz : p.size ≤ 140737488351232) (hT : Tabs w) :
    Calls Tryd.prog 9 #[.string s, .int .i64 n, .string p] w fun e w' => e = .returned (.bool true) ∧ Below w.heap.size w w' := by
  by_cases hbig : 2147483647 < s.size
  · go_enter Tryd.func9, Tryd.ntmps9
    go_wp2
    go_ret
    exact ⟨rfl, Below.refl _ _⟩
  have hle : s.size ≤ 2147483647 := by omega
  by_cases hbig2 : 2147483647 < p.size
  · go_enter Tryd.func9, Tryd.ntmps9
    go_wp2
    go_ret
    exact ⟨rfl, Below.refl _ _⟩
  have hle2 : p.size ≤ 2147483647 := by omega
  clear hbig hbig2 hsz hpz
  rcases ok_cases s with hok | ⟨rs, hs, rfl, hlen, hok⟩
  · go_enter Tryd.func9, Tryd.ntmps9
    go_wp2_with (first
      | (go_at_call 17; refine (valid_no s _ hle hok hT).mono ?_; rintro e w1 ⟨rfl, hb1⟩)
      | (go_at_call 30; refine (implLeftJustify_hello _ (hT.below hb1)).mono ?_; rintro e w2 ⟨rfl, hb2⟩))
    go_ret
    exact ⟨rfl, chain hb1 hb2⟩
  have hl : rs.length ≤ 4096 := by have := enc_length_ge rs; omega
  have HV := Lib.hid fun W (h : Tabs W) => valid_yes rs W hlen hok h
  clear hok
  rcases ok_cases p with hok | ⟨ps, hp, rfl, hlenp, hok⟩
  · go_enter Tryd.func9, Tryd.ntmps9
    go_wp2_with fail
    refine (HV.out _ hT).mono ?_
    rintro e w1 ⟨rfl, hb1⟩
    go_wp2_with fail
    refine (valid_no p _ hle2 hok (hT.below hb1)).mono ?_
    rintro e w2 ⟨rfl, hb2⟩
    go_wp2_with fail
    refine (implLeftJustify_hello _ (hT.below (chain hb1 hb2))).mono ?_
    rintro e w3 ⟨rfl, hb3⟩
    go_wp2
    go_ret
    exact ⟨rfl, chain (chain hb1 hb2) hb3⟩
  have hlp : ps.length ≤ 4096 := by have := enc_length_ge ps; omega
  have HW := Lib.hid fun W (h : Tabs W) => valid_yes ps W hlenp hok h
  clear hok
  by_cases hw : 2000 < n
  · go_enter Tryd.func9, Tryd.ntmps9
    go_wp2_with fail
    refine (HV.out _ hT).mono ?_
    rintro e w1 ⟨rfl, hb1⟩
    go_wp2_with fail
    refine (HW.out _ (hT.below hb1)).mono ?_
    rintro e w2 ⟨rfl, hb2⟩
    go_wp2_with (first
      | (go_at_call 30; refine (implLeftJustify_hello _ (hT.below (chain hb1 hb2))).mono ?_; rintro e w3 ⟨rfl, hb3⟩)
      | go_in)
    go_ret
    exact ⟨rfl, chain (chain hb1 hb2) hb3⟩
  have hn : n ≤ 2000 := by omega
  clear hw
  by_cases h1 : n ≤ rs.length
  · have cJ := Lib.hid fun W (h : Tabs W) => implLeftJustify_same rs ps n W hs hp (by omega) (by omega) hn (padN_short h1) h
    by_cases h0 : n ≤ 0
    · clear h1
      go_enter Tryd.func9, Tryd.ntmps9
      go_wp2_with fail
      refine (HV.out _ hT).mono ?_
      rintro e w1 ⟨rfl, hb1⟩
      go_wp2_with fail
      refine (HW.out _ (hT.below hb1)).mono ?_
      rintro e w2 ⟨rfl, hb2⟩
      have hc2 := chain hb1 hb2
      go_wp2_with (first
        | (go_at_call_of 19 (Value.string (txt (enc rs))); refine (runes_any rs _ hs (by omega)).mono ?_; rintro e w3 ⟨ao, cap, rfl, hown, hb3⟩)
        | (go_at_call 29; go_in))
      have hc3 := chain hc2 hb3
      clear hown
      refine (cJ.out _ (hT.below hc3)).mono ?_
      rintro e wa ⟨rfl, hba⟩
      have hca := chain hc3 hba
      go_wp2_with fail
      refine (implLeftJustify_hello _ (hT.below hca)).mono ?_
      rintro e wb ⟨rfl, hbb⟩
      go_wp2
      go_ret
      exact ⟨rfl, chain hca hbb⟩
    · have hk : ¬ (0 : Int) < n - rs.length := by omega
      go_enter Tryd.func9, Tryd.ntmps9
      go_wp2_with fail
      refine (HV.out _ hT).mono ?_
      rintro e w1 ⟨rfl, hb1⟩
      go_wp2_with fail
      refine (HW.out _ (hT.below hb1)).mono ?_
      rintro e w2 ⟨rfl, hb2⟩
      have hc2 := chain hb1 hb2
      go_wp2_with (first
        | (go_at_call_of 19 (Value.string (txt (enc rs))); refine (runes_any rs _ hs (by omega)).mono ?_; rintro e w3 ⟨ao, cap, rfl, hown, hb3⟩)
        | (go_at_call 29; go_in))
      have hc3 := chain hc2 hb3
      clear hown
      refine (cJ.out _ (hT.below hc3)).mono ?_
      rintro e wa ⟨rfl, hba⟩
      have hca := chain hc3 hba
      go_wp2_with fail
      refine (implLeftJustify_hello _ (hT.below hca)).mono ?_
      rintro e wb ⟨rfl, hbb⟩
      go_wp2
      go_ret
      exact ⟨rfl, chain hca hbb⟩
  obtain ⟨k, rfl⟩ : ∃ k : Nat, n = (rs.length : Int) + k := ⟨(n - rs.length).toNat, by omega⟩
  have HK := Lib.hid (show (rs.length : Int) + k - rs.length = k by omega)
  have hk0 : 0 < k := by omega
  clear h1
  by_cases h2 : ps = []
  · subst h2
    have cJ := Lib.hid fun W (h : Tabs W) => implLeftJustify_same rs [] _ W hs hp (by omega) (by omega) hn (padN_empty rs _) h
    have hemp : txt (enc []) = (⟨#[]⟩ : ByteArray) := rfl
    rw [hemp] at HW cJ hle2 ⊢
    go_enter Tryd.func9, Tryd.ntmps9
    go_wp2_with fail
    refine (HV.out _ hT).mono ?_
    rintro e w1 ⟨rfl, hb1⟩
    go_wp2_with fail
    refine (HW.out _ (hT.below hb1)).mono ?_
    rintro e w2 ⟨rfl, hb2⟩
    have hc2 := chain hb1 hb2
    go_wp2_with (first
      | (go_at_call_of 19 (Value.string (txt (enc rs))); refine (runes_any rs _ hs (by omega)).mono ?_; rintro e w3 ⟨ao, cap, rfl, hown, hb3⟩)
      | (go_at_call 29; go_in))
    have hc3 := chain hc2 hb3
    clear hown
    refine (cJ.out _ (hT.below hc3)).mono ?_
    rintro e wa ⟨rfl, hba⟩
    have hca := chain hc3 hba
    go_wp2_with fail
    refine (implLeftJustify_hello _ (hT.below hca)).mono ?_
    rintro e wb ⟨rfl, hbb⟩
    go_wp2
    go_ret
    exact ⟨rfl, chain hca hbb⟩
  · have cJ := Lib.hid fun W (h : Tabs W) => implLeftJustify_pad rs ps k W hs hp (by omega) (by omega) hn h2 h
    have hne := txt_ne h2
    have hps : 0 < ps.length := List.length_pos_iff.2 h2
    have hpll := enc_length_ge ps
    have HD := Lib.hid (show (k : Int) - (k : Int) / 2 = ((k - k / 2 : Nat) : Int) by omega)
    clear h2
    go_enter Tryd.func9, Tryd.ntmps9
    go_wp2_with fail
    refine (HV.out _ hT).mono ?_
    rintro e w1 ⟨rfl, hb1⟩
    go_wp2_with fail
    refine (HW.out _ (hT.below hb1)).mono ?_
    rintro e w2 ⟨rfl, hb2⟩
    have hc2 := chain hb1 hb2
    go_wp2_with (first
      | (go_at_call_of 19 (Value.string (txt (enc rs))); refine (runes_any rs _ hs (by omega)).mono ?_; rintro e w3 ⟨ao, cap, rfl, hown, hb3⟩)
      | (go_at_call 29; go_in))
    have hc3 := chain hc2 hb3
    clear hown
    rw [HK.out]
    go_wp2_with fail
    refine (runes_any ps _ hp (by omega)).mono ?_
    rintro e w4 ⟨ao2, cap2, rfl, hown4, hb4⟩
    have hc4 := chain hc3 hb4
    go_wp2_with fail
    refine (lawPad_any ps k _ hp (by omega) (by omega) (by omega) hown4).mono ?_
    rintro e w5 ⟨rfl, hb5⟩
    have hc5 := chain hc4 hb5
    have hca := cyc_enc_le ps k hp hpll (by omega)
    have hcat : (txt (enc rs)).size + (txt (enc (cyc ps k))).size ≤ 100000 := by rw [txt_size, txt_size]; omega
    have he : txt (enc rs) ++ txt (enc (cyc ps k)) = txt (enc (rs ++ cyc ps k)) := by rw [txt_append, enc_append]
    go_wp2_with fail
    refine (cJ.out _ (hT.below hc5)).mono ?_
    rintro e wa ⟨rfl, hba⟩
    have hca := chain hc5 hba
    go_wp2_with fail
    refine (implLeftJustify_hello _ (hT.below hca)).mono ?_
    rintro e wb ⟨rfl, hbb⟩
    go_wp2
    go_ret
    exact ⟨rfl, chain hca hbb⟩

set_option maxHeartbeats 3200000 in
set_option maxRecDepth 100000 in
theorem law_Center (s : ByteArray) (n : Int) (p : ByteArray) (w : World) (hsz : s.size ≤ 140737488351232) (hn0 : -9223372036854775808 ≤ n) (hn1 : n ≤ 9223372036854775807) (hpz : p.size ≤ 140737488351232) (hT : Tabs w) :
    Calls Tryd.prog 10 #[.string s, .int .i64 n, .string p] w fun e w' => e = .returned (.bool true) ∧ Below w.heap.size w w' := by
  by_cases hbig : 2147483647 < s.size
  · go_enter Tryd.func10, Tryd.ntmps10
    go_wp2
    go_ret
    exact ⟨rfl, Below.refl _ _⟩
  have hle : s.size ≤ 2147483647 := by omega
  by_cases hbig2 : 2147483647 < p.size
  · go_enter Tryd.func10, Tryd.ntmps10
    go_wp2
    go_ret
    exact ⟨rfl, Below.refl _ _⟩
  have hle2 : p.size ≤ 2147483647 := by omega
  clear hbig hbig2 hsz hpz
  rcases ok_cases s with hok | ⟨rs, hs, rfl, hlen, hok⟩
  · go_enter Tryd.func10, Tryd.ntmps10
    go_wp2_with (first
      | (go_at_call 17; refine (valid_no s _ hle hok hT).mono ?_; rintro e w1 ⟨rfl, hb1⟩)
      | (go_at_call 32; refine (implCenter_hello _ (hT.below hb1)).mono ?_; rintro e w2 ⟨rfl, hb2⟩))
    go_ret
    exact ⟨rfl, chain hb1 hb2⟩
  have hl : rs.length ≤ 4096 := by have := enc_length_ge rs; omega
  have HV := Lib.hid fun W (h : Tabs W) => valid_yes rs W hlen hok h
  clear hok
  rcases ok_cases p with hok | ⟨ps, hp, rfl, hlenp, hok⟩
  · go_enter Tryd.func10, Tryd.ntmps10
    go_wp2_with fail
    refine (HV.out _ hT).mono ?_
    rintro e w1 ⟨rfl, hb1⟩
    go_wp2_with fail
    refine (valid_no p _ hle2 hok (hT.below hb1)).mono ?_
    rintro e w2 ⟨rfl, hb2⟩
    go_wp2_with fail
    refine (implCenter_hello _ (hT.below (chain hb1 hb2))).mono ?_
    rintro e w3 ⟨rfl, hb3⟩
    go_wp2
    go_ret
    exact ⟨rfl, chain (chain hb1 hb2) hb3⟩
  have hlp : ps.length ≤ 4096 := by have := enc_length_ge ps; omega
  have HW := Lib.hid fun W (h : Tabs W) => valid_yes ps W hlenp hok h
  clear hok
  by_cases hw : 2000 < n
  · go_enter Tryd.func10, Tryd.ntmps10
    go_wp2_with fail
    refine (HV.out _ hT).mono ?_
    rintro e w1 ⟨rfl, hb1⟩
    go_wp2_with fail
    refine (HW.out _ (hT.below hb1)).mono ?_
    rintro e w2 ⟨rfl, hb2⟩
    go_wp2_with (first
      | (go_at_call 32; refine (implCenter_hello _ (hT.below (chain hb1 hb2))).mono ?_; rintro e w3 ⟨rfl, hb3⟩)
      | go_in)
    go_ret
    exact ⟨rfl, chain (chain hb1 hb2) hb3⟩
  have hn : n ≤ 2000 := by omega
  clear hw
  by_cases h1 : n ≤ rs.length
  · have cJ := Lib.hid fun W (h : Tabs W) => implCenter_same rs ps n W hs hp (by omega) (by omega) hn (padN_short h1) h
    by_cases h0 : n ≤ 0
    · clear h1
      go_enter Tryd.func10, Tryd.ntmps10
      go_wp2_with fail
      refine (HV.out _ hT).mono ?_
      rintro e w1 ⟨rfl, hb1⟩
      go_wp2_with fail
      refine (HW.out _ (hT.below hb1)).mono ?_
      rintro e w2 ⟨rfl, hb2⟩
      have hc2 := chain hb1 hb2
      go_wp2_with (first
        | (go_at_call_of 19 (Value.string (txt (enc rs))); refine (runes_any rs _ hs (by omega)).mono ?_; rintro e w3 ⟨ao, cap, rfl, hown, hb3⟩)
        | (go_at_call 29; go_in))
      have hc3 := chain hc2 hb3
      clear hown
      refine (cJ.out _ (hT.below hc3)).mono ?_
      rintro e wa ⟨rfl, hba⟩
      have hca := chain hc3 hba
      go_wp2_with fail
      refine (implCenter_hello _ (hT.below hca)).mono ?_
      rintro e wb ⟨rfl, hbb⟩
      go_wp2
      go_ret
      exact ⟨rfl, chain hca hbb⟩
    · have hk : ¬ (0 : Int) < n - rs.length := by omega
      go_enter Tryd.func10, Tryd.ntmps10
      go_wp2_with fail
      refine (HV.out _ hT).mono ?_
      rintro e w1 ⟨rfl, hb1⟩
      go_wp2_with fail
      refine (HW.out _ (hT.below hb1)).mono ?_
      rintro e w2 ⟨rfl, hb2⟩
      have hc2 := chain hb1 hb2
      go_wp2_with (first
        | (go_at_call_of 19 (Value.string (txt (enc rs))); refine (runes_any rs _ hs (by omega)).mono ?_; rintro e w3 ⟨ao, cap, rfl, hown, hb3⟩)
        | (go_at_call 29; go_in))
      have hc3 := chain hc2 hb3
      clear hown
      refine (cJ.out _ (hT.below hc3)).mono ?_
      rintro e wa ⟨rfl, hba⟩
      have hca := chain hc3 hba
      go_wp2_with fail
      refine (implCenter_hello _ (hT.below hca)).mono ?_
      rintro e wb ⟨rfl, hbb⟩
      go_wp2
      go_ret
      exact ⟨rfl, chain hca hbb⟩
  obtain ⟨k, rfl⟩ : ∃ k : Nat, n = (rs.length : Int) + k := ⟨(n - rs.length).toNat, by omega⟩
  have HK := Lib.hid (show (rs.length : Int) + k - rs.length = k by omega)
  have hk0 : 0 < k := by omega
  clear h1
  by_cases h2 : ps = []
  · subst h2
    have cJ := Lib.hid fun W (h : Tabs W) => implCenter_same rs [] _ W hs hp (by omega) (by omega) hn (padN_empty rs _) h
    have hemp : txt (enc []) = (⟨#[]⟩ : ByteArray) := rfl
    rw [hemp] at HW cJ hle2 ⊢
    go_enter Tryd.func10, Tryd.ntmps10
    go_wp2_with fail
    refine (HV.out _ hT).mono ?_
    rintro e w1 ⟨rfl, hb1⟩
    go_wp2_with fail
    refine (HW.out _ (hT.below hb1)).mono ?_
    rintro e w2 ⟨rfl, hb2⟩
    have hc2 := chain hb1 hb2
    go_wp2_with (first
      | (go_at_call_of 19 (Value.string (txt (enc rs))); refine (runes_any rs _ hs (by omega)).mono ?_; rintro e w3 ⟨ao, cap, rfl, hown, hb3⟩)
      | (go_at_call 29; go_in))
    have hc3 := chain hc2 hb3
    clear hown
    refine (cJ.out _ (hT.below hc3)).mono ?_
    rintro e wa ⟨rfl, hba⟩
    have hca := chain hc3 hba
    go_wp2_with fail
    refine (implCenter_hello _ (hT.below hca)).mono ?_
    rintro e wb ⟨rfl, hbb⟩
    go_wp2
    go_ret
    exact ⟨rfl, chain hca hbb⟩
  · have cJ := Lib.hid fun W (h : Tabs W) => implCenter_pad rs ps k W hs hp (by omega) (by omega) hn h2 h
    have hne := txt_ne h2
    have hps : 0 < ps.length := List.length_pos_iff.2 h2
    have hpll := enc_length_ge ps
    have HD := Lib.hid (show (k : Int) - (k : Int) / 2 = ((k - k / 2 : Nat) : Int) by omega)
    clear h2
    go_enter Tryd.func10, Tryd.ntmps10
    go_wp2_with fail
    refine (HV.out _ hT).mono ?_
    rintro e w1 ⟨rfl, hb1⟩
    go_wp2_with fail
    refine (HW.out _ (hT.below hb1)).mono ?_
    rintro e w2 ⟨rfl, hb2⟩
    have hc2 := chain hb1 hb2
    go_wp2_with (first
      | (go_at_call_of 19 (Value.string (txt (enc rs))); refine (runes_any rs _ hs (by omega)).mono ?_; rintro e w3 ⟨ao, cap, rfl, hown, hb3⟩)
      | (go_at_call 29; go_in))
    have hc3 := chain hc2 hb3
    clear hown
    rw [HK.out]
    go_wp2_with fail
    refine (runes_any ps _ hp (by omega)).mono ?_
    rintro e w4 ⟨ao2, cap2, rfl, hown4, hb4⟩
    have hc4 := chain hc3 hb4
    go_wp2_with fail
    rw [show (k : Int) / 2 = ((k / 2 : Nat) : Int) from rfl]
    refine (lawPad_any ps (k / 2) _ hp (by omega) (by omega) (by omega) hown4).mono ?_
    rintro e w4b ⟨rfl, hb4b⟩
    have hc4b := chain hc4 hb4b
    have hca := cyc_enc_le ps (k / 2) hp hpll (by omega)
    have hcb := cyc_enc_le ps (k - k / 2) hp hpll (by omega)
    have hcat : (txt (enc (cyc ps (k / 2)))).size + (txt (enc rs)).size ≤ 100000 := by rw [txt_size, txt_size]; omega
    have hcat2 : (txt (enc (cyc ps (k / 2)))).size + (txt (enc rs)).size + (txt (enc (cyc ps (k - k / 2)))).size ≤ 200000 := by rw [txt_size, txt_size, txt_size]; omega
    go_wp2_with fail
    refine (runes_any ps _ hp (by omega)).mono ?_
    rintro e w4c ⟨ao3, cap3, rfl, hown4c, hb4c⟩
    have hc4c := chain hc4b hb4c
    go_wp2_with fail
    rw [HD.out]
    refine (lawPad_any ps (k - k / 2) _ hp (by omega) (by omega) (by omega) hown4c).mono ?_
    rintro e w5 ⟨rfl, hb5⟩
    have hc5 := chain hc4c hb5
    have he : txt (enc (cyc ps (k / 2))) ++ txt (enc rs) ++ txt (enc (cyc ps (k - k / 2))) = txt (enc (cyc ps (k / 2) ++ (rs ++ cyc ps ((k + 1) / 2)))) := by
      rw [txt_append, txt_append, ← enc_append, ← enc_append, List.append_assoc, show k - k / 2 = (k + 1) / 2 by omega]
    go_wp2_with fail
    refine (cJ.out _ (hT.below hc5)).mono ?_
    rintro e wa ⟨rfl, hba⟩
    have hca := chain hc5 hba
    go_wp2_with fail
    refine (implCenter_hello _ (hT.below hca)).mono ?_
    rintro e wb ⟨rfl, hbb⟩
    go_wp2
    go_ret
    exact ⟨rfl, chain hca hbb⟩

end Go.Proofs.YtodablchamiaeaaDoor
