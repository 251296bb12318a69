/- Contracts of LeftJustify, RightJustify and Center, and of pad. -/
import Derived.Test.YtodablchamiaeaaDoorBuild
import Derived.Test.YtodablchamiaeaaDoorMem
namespace Go.Proofs.YtodablchamiaeaaDoor
open Go.RowKit U8
open Go.Lib hiding intOf

theorem txt_ne {ps : List Nat} (h : ps ≠ []) : ((txt (enc ps)).toList == ([] : List UInt8)) = false := by
  rw [txt_toList]
  cases ps with
  | nil => exact absurd rfl h
  | cons p ps => rw [enc_cons]; have := enc1_ne p; cases h2 : enc1 p with
    | nil => exact absurd h2 this
    | cons a b => rfl
theorem txt_empty : txt (enc []) = ⟨#[]⟩ := rfl

theorem grow_arg (a b m k s : Nat) (ha : a ≤ 10000) (hb : b ≤ 10000) (hk : k ≤ 10000) :
    wrap64 ((a : Int) + wrap64 (wrap64 (((s : Int) + k - s) / m + 1) * b)) = ((a + (k / m + 1) * b : Nat) : Int) ∧ a + (k / m + 1) * b ≤ 281474976710656 := by
  have h1 : ((s : Int) + k - s) / m = ((k / m : Nat) : Int) := by
    rw [show (s : Int) + k - s = k by omega]; rfl
  have hq : k / m ≤ k := Nat.div_le_self _ _
  rw [h1]
  clear h1
  generalize k / m = q at *
  have hP : (q + 1) * b ≤ 100010000 := Nat.le_trans (Nat.mul_le_mul (show q + 1 ≤ 10001 by omega) hb) (by omega)
  have h2 : wrap64 ((q : Int) + 1) = ((q + 1 : Nat) : Int) := by unfold wrap64; omega
  have h3 : wrap64 (((q + 1 : Nat) : Int) * b) = (((q + 1) * b : Nat) : Int) := by
    rw [← Int.natCast_mul]
    generalize (q + 1) * b = P at *
    unfold wrap64; omega
  rw [h2, h3]
  generalize (q + 1) * b = P at *
  refine ⟨?_, by omega⟩
  unfold wrap64; omega

theorem cyc_enc_le (ps : List Nat) (k : Nat) (_hp : Scs ps) (_h : ps.length ≤ (enc ps).length) (_h2 : (enc ps).length ≤ 10000) : (enc (cyc ps k)).length ≤ 4 * k := by
  have := enc_length_le (cyc ps k)
  rw [cyc_length] at this
  exact this
theorem left_short (rs : List Nat) (p : ByteArray) (n : Int) (w : World) (hs : Scs rs) (hl : (enc rs).length ≤ 10000) (h : n ≤ rs.length) :
    Calls Tryd.prog 60 #[.string (txt (enc rs)), .int .i64 n, .string p] w fun e w' => e = .returned (.string (txt (enc rs))) ∧ Below w.heap.size w w' := by
  go_enter Tryd.func60, Tryd.ntmps60
  go_wp2_with (go_at_call 57; refine (len_any rs _ hs (by omega)).mono ?_; rintro e w1 ⟨rfl, hb1⟩)
  go_ret
  exact ⟨rfl, hb1⟩
theorem left_bare (rs : List Nat) (n : Int) (w : World) (hs : Scs rs) (hl : (enc rs).length ≤ 10000) (h : (rs.length : Int) < n) :
    Calls Tryd.prog 60 #[.string (txt (enc rs)), .int .i64 n, .string ⟨#[]⟩] w fun e w' => e = .returned (.string (txt (enc rs))) ∧ Below w.heap.size w w' := by
  have h2 : ¬ n ≤ (rs.length : Int) := by omega
  go_enter Tryd.func60, Tryd.ntmps60
  go_wp2_with (go_at_call 57; refine (len_any rs _ hs (by omega)).mono ?_; rintro e w1 ⟨rfl, hb1⟩)
  go_ret
  exact ⟨rfl, hb1⟩

set_option maxHeartbeats 1600000 in
set_option maxRecDepth 100000 in
theorem left_any (rs ps : List Nat) (k : Nat) (w : World) (hs : Scs rs) (hp : Scs ps) (hp0 : ps ≠ []) (hl : (enc rs).length ≤ 10000) (hpl : (enc ps).length ≤ 10000) (hk0 : 0 < k) (hk : k ≤ 3000) (hT : Tabs w) :
    Calls Tryd.prog 60 #[.string (txt (enc rs)), .int .i64 ((rs.length : Int) + k), .string (txt (enc ps))] w fun e w' => e = .returned (.string (txt (enc (rs ++ cyc ps k)))) ∧ Below w.heap.size w w' := by
  have hll := enc_length_ge rs
  have hpll := enc_length_ge ps
  have hps : 0 < ps.length := List.length_pos_iff.2 hp0
  have hne := txt_ne hp0
  have hga := grow_arg (txt (enc rs)).size (txt (enc ps)).size ps.length k rs.length (by rw [txt_size]; exact hl) (by rw [txt_size]; exact hpl) (by omega)
  have HG := Lib.hid hga
  have hdiff : (rs.length : Int) + k - rs.length = k := by omega
  have HD := Lib.hid hdiff
  clear hga hdiff
  go_enter Tryd.func60, Tryd.ntmps60
  go_wp2_with (first
    | (go_at_call_of 57 (Value.string (txt (enc rs))); refine (len_any rs _ hs (by omega)).mono ?_; rintro e w1 ⟨rfl, hb1⟩)
    | (go_at_call 57; refine (len_any ps _ hp (by omega)).mono ?_; rintro e w2 ⟨rfl, hb2⟩))
  rw [HG.out.1]
  have hc2 := chain hb1 hb2
  have hcs := hc2.size
  refine (bld_grow w.heap.size w2.heap.size _ _ hcs (heap_alloc_new w2 _) (by simp; omega) HG.out.2).mono ?_
  rintro e w3 ⟨rfl, hbl3, hb3⟩
  have hc3 := ((hc2.alloc hcs _).trans hb3)
  go_wp2_with fail
  refine (bld_write w.heap.size w2.heap.size _ (enc rs) _ hbl3 (by simp; omega) hc3.size).mono ?_
  rintro e w4 ⟨rfl, hbl4, hb4, _⟩
  rw [List.nil_append] at hbl4
  have hc4 := hc3.trans hb4
  go_wp2_with fail
  rw [HD.out]
  refine (pad_any w.heap.size w2.heap.size (enc rs) ps k _ hbl4 hc4.size hp hps hpl (by omega) (by omega) (fun W hb => hT.below (hc4.trans hb))).mono ?_
  rintro e w5 ⟨rfl, hbl5, hb5⟩
  have hc5 := hc4.trans hb5
  go_wp2_with fail
  refine (bld_string w.heap.size w2.heap.size _ _ hbl5 hc5.size).mono ?_
  rintro e w6 ⟨rfl, _, hb6, _⟩
  go_wp2
  go_ret
  exact ⟨by rw [enc_append]; rfl, hc5.trans hb6⟩

theorem right_short (rs : List Nat) (p : ByteArray) (n : Int) (w : World) (hs : Scs rs) (hl : (enc rs).length ≤ 10000) (h : n ≤ rs.length) :
    Calls Tryd.prog 65 #[.string (txt (enc rs)), .int .i64 n, .string p] w fun e w' => e = .returned (.string (txt (enc rs))) ∧ Below w.heap.size w w' := by
  go_enter Tryd.func65, Tryd.ntmps65
  go_wp2_with (go_at_call 57; refine (len_any rs _ hs (by omega)).mono ?_; rintro e w1 ⟨rfl, hb1⟩)
  go_ret
  exact ⟨rfl, hb1⟩
theorem right_bare (rs : List Nat) (n : Int) (w : World) (hs : Scs rs) (hl : (enc rs).length ≤ 10000) (h : (rs.length : Int) < n) :
    Calls Tryd.prog 65 #[.string (txt (enc rs)), .int .i64 n, .string ⟨#[]⟩] w fun e w' => e = .returned (.string (txt (enc rs))) ∧ Below w.heap.size w w' := by
  have h2 : ¬ n ≤ (rs.length : Int) := by omega
  go_enter Tryd.func65, Tryd.ntmps65
  go_wp2_with (go_at_call 57; refine (len_any rs _ hs (by omega)).mono ?_; rintro e w1 ⟨rfl, hb1⟩)
  go_ret
  exact ⟨rfl, hb1⟩

set_option maxHeartbeats 1600000 in
set_option maxRecDepth 100000 in
theorem right_any (rs ps : List Nat) (k : Nat) (w : World) (hs : Scs rs) (hp : Scs ps) (hp0 : ps ≠ []) (hl : (enc rs).length ≤ 10000) (hpl : (enc ps).length ≤ 10000) (hk0 : 0 < k) (hk : k ≤ 3000) (hT : Tabs w) :
    Calls Tryd.prog 65 #[.string (txt (enc rs)), .int .i64 ((rs.length : Int) + k), .string (txt (enc ps))] w fun e w' => e = .returned (.string (txt (enc (cyc ps k ++ rs)))) ∧ Below w.heap.size w w' := by
  have hll := enc_length_ge rs
  have hpll := enc_length_ge ps
  have hps : 0 < ps.length := List.length_pos_iff.2 hp0
  have hne := txt_ne hp0
  have hga := grow_arg (txt (enc rs)).size (txt (enc ps)).size ps.length k rs.length (by rw [txt_size]; exact hl) (by rw [txt_size]; exact hpl) (by omega)
  have HG := Lib.hid hga
  have hdiff : (rs.length : Int) + k - rs.length = k := by omega
  have HD := Lib.hid hdiff
  clear hga hdiff
  go_enter Tryd.func65, Tryd.ntmps65
  go_wp2_with (first
    | (go_at_call_of 57 (Value.string (txt (enc rs))); refine (len_any rs _ hs (by omega)).mono ?_; rintro e w1 ⟨rfl, hb1⟩)
    | (go_at_call 57; refine (len_any ps _ hp (by omega)).mono ?_; rintro e w2 ⟨rfl, hb2⟩))
  rw [HG.out.1]
  have hc2 := chain hb1 hb2
  have hcs := hc2.size
  refine (bld_grow w.heap.size w2.heap.size _ _ hcs (heap_alloc_new w2 _) (by simp; omega) HG.out.2).mono ?_
  rintro e w3 ⟨rfl, hbl3, hb3⟩
  have hc3 := ((hc2.alloc hcs _).trans hb3)
  go_wp2_with fail
  rw [HD.out]
  refine (pad_any w.heap.size w2.heap.size [] ps k _ hbl3 hc3.size hp hps hpl (by omega) (by simp) (fun W hb => hT.below (hc3.trans hb))).mono ?_
  rintro e w4 ⟨rfl, hbl4, hb4⟩
  rw [List.nil_append] at hbl4
  have hc4 := hc3.trans hb4
  have hcl := cyc_enc_le ps k hp hpll hpl
  go_wp2_with fail
  refine (bld_write w.heap.size w2.heap.size _ (enc rs) _ hbl4 (by omega) hc4.size).mono ?_
  rintro e w5 ⟨rfl, hbl5, hb5, _⟩
  have hc5 := hc4.trans hb5
  go_wp2_with fail
  refine (bld_string w.heap.size w2.heap.size _ _ hbl5 hc5.size).mono ?_
  rintro e w6 ⟨rfl, _, hb6, _⟩
  go_wp2
  go_ret
  exact ⟨by rw [enc_append]; rfl, hc5.trans hb6⟩

theorem center_short (rs : List Nat) (p : ByteArray) (n : Int) (w : World) (hs : Scs rs) (hl : (enc rs).length ≤ 10000) (h : n ≤ rs.length) :
    Calls Tryd.prog 61 #[.string (txt (enc rs)), .int .i64 n, .string p] w fun e w' => e = .returned (.string (txt (enc rs))) ∧ Below w.heap.size w w' := by
  go_enter Tryd.func61, Tryd.ntmps61
  go_wp2_with (go_at_call 57; refine (len_any rs _ hs (by omega)).mono ?_; rintro e w1 ⟨rfl, hb1⟩)
  go_ret
  exact ⟨rfl, hb1⟩
theorem center_bare (rs : List Nat) (n : Int) (w : World) (hs : Scs rs) (hl : (enc rs).length ≤ 10000) (h : (rs.length : Int) < n) :
    Calls Tryd.prog 61 #[.string (txt (enc rs)), .int .i64 n, .string ⟨#[]⟩] w fun e w' => e = .returned (.string (txt (enc rs))) ∧ Below w.heap.size w w' := by
  have h2 : ¬ n ≤ (rs.length : Int) := by omega
  go_enter Tryd.func61, Tryd.ntmps61
  go_wp2_with (go_at_call 57; refine (len_any rs _ hs (by omega)).mono ?_; rintro e w1 ⟨rfl, hb1⟩)
  go_ret
  exact ⟨rfl, hb1⟩

set_option maxHeartbeats 1600000 in
set_option maxRecDepth 100000 in
theorem center_any (rs ps : List Nat) (k : Nat) (w : World) (hs : Scs rs) (hp : Scs ps) (hp0 : ps ≠ []) (hl : (enc rs).length ≤ 10000) (hpl : (enc ps).length ≤ 10000) (hk0 : 0 < k) (hk : k ≤ 3000) (hT : Tabs w) :
    Calls Tryd.prog 61 #[.string (txt (enc rs)), .int .i64 ((rs.length : Int) + k), .string (txt (enc ps))] w fun e w' => e = .returned (.string (txt (enc (cyc ps (k / 2) ++ rs ++ cyc ps ((k + 1) / 2))))) ∧ Below w.heap.size w w' := by
  have hll := enc_length_ge rs
  have hpll := enc_length_ge ps
  have hps : 0 < ps.length := List.length_pos_iff.2 hp0
  have hne := txt_ne hp0
  have hga := grow_arg (txt (enc rs)).size (txt (enc ps)).size ps.length k rs.length (by rw [txt_size]; exact hl) (by rw [txt_size]; exact hpl) (by omega)
  have HG := Lib.hid hga
  have hdiff : (rs.length : Int) + k - rs.length = k := by omega
  have HD := Lib.hid hdiff
  clear hga hdiff
  go_enter Tryd.func61, Tryd.ntmps61
  go_wp2_with (first
    | (go_at_call_of 57 (Value.string (txt (enc rs))); refine (len_any rs _ hs (by omega)).mono ?_; rintro e w1 ⟨rfl, hb1⟩)
    | (go_at_call 57; refine (len_any ps _ hp (by omega)).mono ?_; rintro e w2 ⟨rfl, hb2⟩))
  rw [HG.out.1]
  have hc2 := chain hb1 hb2
  have hcs := hc2.size
  refine (bld_grow w.heap.size w2.heap.size _ _ hcs (heap_alloc_new w2 _) (by simp; omega) HG.out.2).mono ?_
  rintro e w3 ⟨rfl, hbl3, hb3⟩
  have hc3 := ((hc2.alloc hcs _).trans hb3)
  go_wp2_with fail
  rw [HD.out]
  have hcl := cyc_enc_le ps (k / 2) hp hpll hpl
  rw [show (k : Int) / 2 = ((k / 2 : Nat) : Int) from rfl]
  refine (pad_any w.heap.size w2.heap.size [] ps (k / 2) _ hbl3 hc3.size hp hps hpl (by omega) (by simp) (fun W hb => hT.below (hc3.trans hb))).mono ?_
  rintro e w4 ⟨rfl, hbl4, hb4⟩
  rw [List.nil_append] at hbl4
  have hc4 := hc3.trans hb4
  go_wp2_with fail
  refine (bld_write w.heap.size w2.heap.size _ (enc rs) _ hbl4 (by omega) hc4.size).mono ?_
  rintro e w5' ⟨rfl, hbl5', hb5', _⟩
  have hc5' := hc4.trans hb5'
  go_wp2_with fail
  rw [show ((k : Int) + 1) / 2 = (((k + 1) / 2 : Nat) : Int) from rfl]
  refine (pad_any w.heap.size w2.heap.size _ ps ((k + 1) / 2) _ hbl5' hc5'.size hp hps hpl (by omega) (by rw [List.length_append]; omega) (fun W hb => hT.below (hc5'.trans hb))).mono ?_
  rintro e w5 ⟨rfl, hbl5, hb5⟩
  have hc5 := hc5'.trans hb5
  go_wp2_with fail
  refine (bld_string w.heap.size w2.heap.size _ _ hbl5 hc5.size).mono ?_
  rintro e w6 ⟨rfl, _, hb6, _⟩
  go_wp2
  go_ret
  exact ⟨by rw [enc_append, enc_append, List.append_assoc]; rfl, hc5.trans hb6⟩

/-- WHAT THE LAWS' OWN pad RETURNS. -/
theorem mod_lt_of {k n : Nat} (h : 0 < n) : k % n < n := Nat.mod_lt _ h

set_option maxHeartbeats 1600000 in
set_option maxRecDepth 100000 in
theorem lawPad_any {base : Nat} {ao : Option Addr} {cap : Nat} (ps : List Nat) (n : Nat) (w : World) (hp : Scs ps) (hp0 : 0 < ps.length) (hpl : ps.length ≤ 10000) (hn : n ≤ 10000)
    (hown : w.ownsRow base 21 1 (.slice ao ps.length cap) ps.length (cells ps)) :
    Calls Tryd.prog 31 #[.slice ao ps.length cap, .int .i64 n] w fun e w' => e = .returned (.string (txt (enc (cyc ps n)))) ∧ Below w.heap.size w w' := by
  obtain ⟨i0, hi, hz0, hz1, hz2⟩ := info_parts Tryd.info21
  obtain ⟨g, _, rfl⟩ := owns_some hown hp0
  have hgl : g < w.heap.size := (hown.lt g rfl).2
  have hcell : Hid (∀ j (hj : j < ps.length), w.cell? ⟨g, j, none⟩ = some (.int .i32 (ps[j]'hj : Nat))) := fun j hj => cellOf hown j hj
  clear hown
  go_enter Tryd.func31, Tryd.ntmps31
  go_wp2
  go_loopg [5, 6] (n + 1) (fun gk v i wr => ∃ k : Nat, k ≤ n ∧ i = .int .i64 k ∧ n - k < gk ∧ Hid (wr.ownsRow w.heap.size 21 1 v k (cells (cyc ps k))) ∧ Below w.heap.size w wr)
  case atStart => exact ⟨0, by omega, rfl, by omega, World.ownsRow_nil _ _ _ _, Below.refl _ _⟩
  case round =>
    obtain ⟨k, hk, rfl, hg, hown, hb⟩ := hrel
    have hbs := hb.size
    by_cases hkn : k < n
    · obtain ⟨gk, rfl⟩ : ∃ m, gk = m + 1 := ⟨gk - 1, by omega⟩
      obtain ⟨m, hm⟩ : ∃ m, k % ps.length = m := ⟨_, rfl⟩
      have hml : m < ps.length := by rw [← hm]; exact mod_lt_of hp0
      have hmi : (k : Int) % (ps.length : Int) = (m : Int) := by rw [← hm]; rfl
      obtain ⟨r, hr⟩ : ∃ r, ps[m] = r := ⟨_, rfl⟩
      have hc : wr.cell? ⟨g, m, none⟩ = some (.int .i32 (r : Int)) := by
        rw [hb.cell (by simpa using hgl), hcell.out m hml, hr]
      have hcy : cyc ps (k + 1) = cyc ps k ++ [r] := by
        rw [cyc_succ, hm]
        simp [List.getD, List.getElem?_eq_getElem hml, hr]
      have HCY := Lib.hid hcy
      clear hcy hr hm
      go_wp2_with (at_builtin; refine wpList_app1 rfl _ _ 24 21 rfl i0 (.int .i32 0) 4 Tryd.underlying24 hi hz0 hz1 hz2 rfl w.heap.size _ k _ rfl hown.out (.int .i32 r) rfl rfl (by omega) (by omega) hbs ?_)
      intro ao cap w2 hown2 hb2 _
      go_wp2
      go_roundg gk
      case rel =>
        refine ⟨k + 1, by omega, by go_num, by omega, ?_, hb.trans hb2⟩
        show World.ownsRow _ _ _ _ _ _ _
        rw [HCY.out, cells_append]
        exact hown2
      case measure => omega
    · obtain rfl : k = n := by omega
      have cT := Lib.hid (text_any (cyc ps k) wr (cyc_scs ps hp hp0 k) hown.out)
      clear hown hcell
      go_wp2_with (go_at_call 20; refine cT.out.mono ?_; rintro e w2 ⟨rfl, rfl⟩)
      go_ret
      exact ⟨rfl, hb⟩

end Go.Proofs.YtodablchamiaeaaDoor
