/- The reference's RuneWidth, settled, Width, fill and ExpandTabs: their contracts. -/
import Derived.Test.YtkaoafhkllomcaaDoorPTabsImpl
import Derived.Test.YtkaoafhkllomcaaDoorPScrub
import Derived.Test.YtkaoafhkllomcaaDoorPHelp
namespace Go.Proofs.YtkaoafhkllomcaaDoor
open Go.RowKit U8
open Go.Lib hiding intOf

/-- Characters of which the documentation says no width. -/
def opn (r : Nat) : Bool := decide (r = 65533 ∨ (26 ≤ r ∧ r ≤ 31))

set_option maxHeartbeats 1600000 in
theorem srw_any (r : Nat) (w : World) (hr : Sc r) :
    Calls Tryd.prog 51 #[.int .i32 r] w fun e w' => e = .returned (if opn r then .tuple #[.int .i64 0, .int .i64 2] else .tuple #[.int .i64 (widN r), .int .i64 1]) ∧ w' = w := by
  obtain ⟨V, hV⟩ : ∃ V : Value, (if opn r then Value.tuple #[.int .i64 0, .int .i64 2] else .tuple #[.int .i64 (widN r), .int .i64 1]) = V := ⟨_, rfl⟩
  rw [hV]
  have HV := Lib.hid hV.symm
  clear hV
  have hw : (widN r : Int) = wid r := widN_int r
  have HW := Lib.hid hw
  clear hw
  unfold Sc at hr
  by_cases h1 : r = 65533
  · subst h1
    go_enter Tryd.func51, Tryd.ntmps51
    go_wp2
    go_ret2
    exact ⟨by rw [HV.out]; rfl, rfl⟩
  have n1 : ((r : Int) == 65533) = false := by simp; omega
  by_cases h2 : 26 ≤ r ∧ r ≤ 31
  · have ho : opn r = true := by unfold opn; rw [decide_eq_true_eq]; omega
    clear h1
    go_enter Tryd.func51, Tryd.ntmps51
    go_wp2
    go_ret2
    exact ⟨by rw [HV.out, ho]; rfl, rfl⟩
  have ho : opn r = false := by unfold opn; rw [decide_eq_false_iff_not]; omega
  have HO := Lib.hid ho
  have h1' := h1
  rcases (show (r ≤ 25) ∨ (32 ≤ r ∧ r ≤ 8191) ∨ (8192 ≤ r ∧ r ≤ 55295) ∨ (57344 ≤ r ∧ r ≤ 65376) ∨ (65377 ≤ r ∧ r ≤ 65439) ∨ (65440 ≤ r ∧ r ≤ 1114111) by omega) with h | h | h | h | h | h
  all_goals
    have hww : wid r = (if r ≤ 25 then 0 else if r ≤ 8191 then 1 else if r ≤ 65376 then 2 else if r ≤ 65439 then 1 else 2 : Int) := by
      unfold wid
      repeat' split
      all_goals omega
    have HWW := Lib.hid hww
    clear hww h1 h2 ho hr h1'
    go_enter Tryd.func51, Tryd.ntmps51
    go_wp2
    go_ret2
    refine ⟨?_, rfl⟩
    rw [HV.out, HO.out, if_neg (by decide), HW.out, HWW.out]
    repeat' (first | rw [if_pos (by omega)] | rw [if_neg (by omega)])
    try rfl

set_option maxHeartbeats 800000 in
theorem settled1 (s : ByteArray) (B : Bool) (w : World) (hs : s.size ≤ 2147483647) (hT : Tabs w) (hB : validD s.data.toList = B) :
    Calls Tryd.prog 50 #[.slice (some ⟨w.heap.size, 0, none⟩) 1 1] (w.alloc (.cells #[.string s] 9)) fun e w' => e = .returned (.bool B) ∧ Below w.heap.size w w' := by
  have hb0 : Below w.heap.size w (w.alloc (.cells #[.string s] 9)) := (Below.refl _ _).alloc (Nat.le_refl _) _
  have hc0 : (w.alloc (.cells #[.string s] 9)).cell? ⟨w.heap.size, 0, none⟩ = some (.string s) := by simp
  have hz0 : w.heap.size < (w.alloc (.cells #[.string s] 9)).heap.size := by simp
  generalize w.alloc (.cells #[.string s] 9) = wa at *
  have cV := Lib.hid fun W (h : Tabs W) => hB ▸ Tryd.utf8_ValidString s W (by omega) h
  clear hB
  go_enter Tryd.func50, Tryd.ntmps50
  go_wp2
  go_loopg [7] 3 (fun gk i wr => ∃ k : Nat, i = .int .i64 k ∧ (k = 0 ∨ (k = 1 ∧ Hid (B = true))) ∧ 2 - k < gk ∧ Below wa.heap.size wa wr)
  case atStart => exact ⟨0, rfl, .inl rfl, by omega, Below.refl _ _⟩
  case round =>
    obtain ⟨k, rfl, hk, hg, hb⟩ := hrel
    have hbw : Below w.heap.size w wr := hb0.trans (hb.mono (by omega))
    rcases hk with rfl | ⟨rfl, hBt⟩
    · obtain ⟨gk, rfl⟩ : ∃ m, gk = m + 1 := ⟨gk - 1, by omega⟩
      have hc := (hb.cell (p := ⟨w.heap.size, 0, none⟩) hz0).trans hc0
      cases B
      · go_wp2_with (go_at_call 67; refine (cV.out _ (hT.below hbw)).mono ?_; rintro e w1 ⟨rfl, hb1⟩)
        go_ret
        exact ⟨rfl, chain hbw hb1⟩
      · go_wp2_with (go_at_call 67; refine (cV.out _ (hT.below hbw)).mono ?_; rintro e w1 ⟨rfl, hb1⟩)
        go_roundg gk
        case rel => exact ⟨1, rfl, .inr ⟨rfl, by first | exact rfl | exact trivial⟩, by omega, hb.trans (hb1.mono hb.size)⟩
        case measure => omega
    · go_wp2
      go_ret
      exact ⟨by rw [hBt.out]; rfl, hbw⟩

theorem srw_open (r : Nat) (w : World) (hr : Sc r) (h : opn r = true) :
    Calls Tryd.prog 51 #[.int .i32 r] w fun e w' => e = .returned (.tuple #[.int .i64 0, .int .i64 2]) ∧ w' = w := by
  have := srw_any r w hr
  rw [h] at this
  exact this
theorem srw_yes (r : Nat) (w : World) (hr : Sc r) (h : opn r = false) :
    Calls Tryd.prog 51 #[.int .i32 r] w fun e w' => e = .returned (.tuple #[.int .i64 (widN r), .int .i64 1]) ∧ w' = w := by
  have := srw_any r w hr
  rw [h] at this
  exact this
def wsum (rs : List Nat) : Nat := (rs.map widN).sum
theorem wsum_snoc (rs : List Nat) (r : Nat) : wsum (rs ++ [r]) = wsum rs + widN r := by simp [wsum]
theorem wsum_le : ∀ rs : List Nat, wsum rs ≤ 2 * rs.length
  | [] => by simp [wsum]
  | r :: rs => by
    have := wsum_le rs
    have := widN_le r
    have e : wsum (r :: rs) = widN r + wsum rs := by simp [wsum]
    rw [e, List.length_cons]; omega
theorem wsum_int : ∀ rs : List Nat, ((wsum rs : Nat) : Int) = widAll rs
  | [] => rfl
  | r :: rs => by
    have h1 := wsum_int rs
    have h2 := widN_int r
    have e : wsum (r :: rs) = widN r + wsum rs := by simp [wsum]
    rw [e, widAll_cons]; omega

/-- What a range over a text of characters hands over. -/
theorem next_enc (W : World) (k : Nat) (done rest : List Nat) (r : Nat) (hk : W.heap[k]? = some (.stringIter (txt (enc (done ++ r :: rest))) (enc done).length)) (hr : Sc r) (ty : TypeId) :
    (Instr.next (.pointer (some ⟨k, 0, none⟩)) true ty).run Tryd.prog W = .ok (.tuple #[.bool true, .int .i64 (enc done).length, .int .i32 r]) (W.iterAt k (txt (enc (done ++ r :: rest))) (enc (done ++ [r])).length) := by
  have hp : (enc done).length < (txt (enc (done ++ r :: rest))).size := by
    have := enc1_pos r
    rw [txt_size, enc_append, List.length_append, enc_cons, List.length_append]; omega
  have hlen : (enc (done ++ [r])).length = (enc done).length + (enc1 r).length := by rw [enc_append, List.length_append, enc_one]
  rw [run_next_any_at W k _ _ ty hk hp, hlen, decode_txt done rest r hr]

set_option maxHeartbeats 1600000 in
set_option maxRecDepth 100000 in
theorem swidth_any (rs : List Nat) (w : World) (hs : Scs rs) (hl : (enc rs).length ≤ 500) (hT : Tabs w) :
    Calls Tryd.prog 15 #[.string (txt (enc rs))] w fun e w' => (rs.any opn = true → e = .returned (.tuple #[.int .i64 0, .int .i64 2])) ∧ (rs.any opn = false → e = .returned (.tuple #[.int .i64 (wsum rs), .int .i64 1])) ∧ Below w.heap.size w w' := by
  have hrl := enc_length_ge rs
  have cS := Lib.hid fun W (h : Tabs W) => settled1 (txt (enc rs)) true W (by rw [txt_size]; omega) h (by rw [txt_list]; exact valid_enc rs hs)
  obtain ⟨T, hTx⟩ : ∃ T, txt (enc rs) = T := ⟨_, rfl⟩
  have HTX := Lib.hid hTx
  rw [hTx] at cS ⊢
  clear hTx
  go_enter Tryd.func15, Tryd.ntmps15
  go_wp2_with fail
  refine (cS.out _ hT).mono ?_
  rintro e w1 ⟨rfl, hb1⟩
  go_wp2
  have hk1 := hb1.size
  have hb0 : Below w.heap.size w (w1.iter T 0) := hb1.alloc hk1 _
  go_loopg [4] (rs.length + 1) (fun gk n wr => ∃ done rest, Hid (rs = done ++ rest) ∧ wr.heap[w1.heap.size]? = some (.stringIter T (enc done).length) ∧ n = .int .i64 (wsum done) ∧ rest.length < gk ∧ Scs rest ∧ Hid (done.any opn = false) ∧ Below w.heap.size w wr)
  case atStart => exact ⟨[], rs, rfl, by simp [World.iter_heap, enc], rfl, by omega, hs, rfl, hb0⟩
  case round =>
    obtain ⟨done, rest, HR, hit, rfl, hg, hsr, HO, hb⟩ := hrel
    have hsz : w1.heap.size < wr.heap.size := (Array.getElem?_eq_some_iff.1 hit).1
    have hpr : done.length + rest.length = rs.length := by have h := congrArg List.length HR.out; rw [List.length_append] at h; omega
    have hws := wsum_le done
    cases rest with
    | nil =>
      have hp : ¬ (enc done).length < T.size := by rw [← HTX.out, HR.out, List.append_nil, txt_size]; omega
      have hnx := fun ty => @run_next_end_at Tryd.prog wr w1.heap.size _ _ ty hit hp
      have e := HR.out
      rw [List.append_nil] at e
      have HE := Lib.hid e
      clear hp e hpr
      go_wp2
      go_ret2
      refine ⟨fun h => ?_, fun _ => ?_, hb⟩
      · rw [HE.out, HO.out] at h; cases h
      · rw [HE.out]; rfl
    | cons r rest =>
      have hr := hsr.head
      have hri := hr.i32
      have hwr := widN_le r
      rw [List.length_cons] at hg hpr
      have hnx : ∀ ty, (Instr.next (.pointer (some ⟨w1.heap.size, 0, none⟩)) true ty).run Tryd.prog wr = .ok (.tuple #[.bool true, .int .i64 (enc done).length, .int .i32 r]) (wr.iterAt w1.heap.size T (enc (done ++ [r])).length) := fun ty => by
        have h := next_enc wr w1.heap.size done rest r (by rw [← HR.out, HTX.out]; exact hit) hr ty
        rw [← HR.out, HTX.out] at h
        exact h
      have hit2 := iterAt_heap wr w1.heap.size T _ (enc (done ++ [r])).length hit
      have hb2 := below_iterAt hb hk1 T (enc (done ++ [r])).length
      generalize wr.iterAt w1.heap.size T (enc (done ++ [r])).length = wi at *
      obtain ⟨gk, rfl⟩ : ∃ m, gk = m + 1 := ⟨gk - 1, by omega⟩
      clear hit hb hsz
      cases ho : opn r with
      | true =>
        have c := Lib.hid fun W => srw_open r W hr ho
        have HANY : Hid (rs.any opn = true) := by show _ = _; rw [HR.out, List.any_append, List.any_cons, ho]; simp
        clear ho
        go_wp2_with (go_at_call 51; refine (c.out _).mono ?_; rintro e w5 ⟨rfl, hw5⟩; obtain rfl := hw5.symm)
        go_ret2
        refine ⟨fun _ => rfl, fun h => ?_, hb2⟩
        rw [HANY.out] at h; cases h
      | false =>
        have c := Lib.hid fun W => srw_yes r W hr ho
        have HO2 : Hid ((done ++ [r]).any opn = false) := by show _ = _; rw [List.any_append, HO.out, List.any_cons, ho]; rfl
        clear ho
        go_wp2_with (go_at_call 51; refine (c.out _).mono ?_; rintro e w5 ⟨rfl, hw5⟩; obtain rfl := hw5.symm)
        go_roundg gk
        case rel => exact ⟨done ++ [r], rest, by show _ = _; rw [HR.out]; simp, hit2, by rw [wsum_snoc]; go_num, by omega, hsr.tail, HO2.out, hb2⟩
        case measure => omega
theorem swidth_bad (s : ByteArray) (w : World) (hs : s.size ≤ 2147483647) (hv : validD s.data.toList = false) (hT : Tabs w) :
    Calls Tryd.prog 15 #[.string s] w fun e w' => e = .returned (.tuple #[.int .i64 0, .int .i64 2]) ∧ Below w.heap.size w w' := by
  have cS := Lib.hid fun W (h : Tabs W) => settled1 s false W hs h hv
  clear hv
  go_enter Tryd.func15, Tryd.ntmps15
  go_wp2_with fail
  refine (cS.out _ hT).mono ?_
  rintro e w1 ⟨rfl, hb1⟩
  go_wp2
  go_ret2
  exact ⟨rfl, hb1⟩

end Go.Proofs.YtkaoafhkllomcaaDoor
