/- Package strings' trimmers at texts of bytes below 128, over a function value. Condition: such texts. -/
import Derived.Test.YtdfhidnhkeapbaaDoorJPred
import Derived.Test.YtdfhidnhkeapbaaDoorGList
namespace Go.Proofs.YtdfhidnhkeapbaaDoor
open Go.RowKit U8
open Go.Lib hiding intOf

theorem sdrop (l : List UInt8) (i : Nat) (h : i ≤ l.length) (W : World) :
    (Instr.slice 9 (.string (txt l)) (some (.int .i64 i)) none none).run Tryd.prog W = .ok (.string (txt (l.drop i))) W := by
  have hts := txt_size l
  have hex : (txt l).extract i l.length = txt (l.drop i) := by
    rw [txt_extract, List.take_length]
  simp [Instr.slice, run_underlying Tryd.underlying9, Instr.sliceBounds, run_sliceBound, hts, (by omega : (i : Int) ≤ (l.length : Int)), hex]
theorem stake (l : List UInt8) (i : Nat) (h : i ≤ l.length) (W : World) :
    (Instr.slice 9 (.string (txt l)) (some (.int .i64 0)) (some (.int .i64 i)) none).run Tryd.prog W = .ok (.string (txt (l.take i))) W := by
  have hts := txt_size l
  have hex : (txt l).extract 0 i = txt (l.take i) := by
    rw [txt_extract, List.drop_zero]
  simp [Instr.slice, run_underlying Tryd.underlying9, Instr.sliceBounds, run_sliceBound, hts, (by omega : (i : Int) ≤ (l.length : Int)), hex]
theorem trimR_snoc (p : UInt8 → Bool) (a : List UInt8) (c : UInt8) : trimR p (a ++ [c]) = if p c then trimR p a else a ++ [c] := by
  unfold trimR
  rw [List.reverse_append, List.reverse_singleton, List.singleton_append, List.dropWhile_cons]
  split
  · rfl
  · rw [List.reverse_cons, List.reverse_reverse]
theorem trimR_take (p : UInt8 → Bool) (l : List UInt8) : l.take (trimR p l).length = trimR p l ∧ (trimR p l).length ≤ l.length := by
  have h : trimR p l <+: l := by
    unfold trimR
    have := List.reverse_prefix.2 (List.dropWhile_suffix p (l := l.reverse))
    rwa [List.reverse_reverse] at this
  exact ⟨(List.prefix_iff_eq_take.1 h).symm, h.length_le⟩
set_option maxHeartbeats 1600000 in
set_option maxRecDepth 100000 in
theorem sidx_any (g : Nat) (eg : ∀ args w, (callFunc g args).run Tryd.prog w = .ok (.enter g args) w) (p : UInt8 → Bool) (l : List UInt8) (w : World)
    (ha : ∀ x ∈ l, x.toNat < 128) (hp : ∀ W, PredV g #[] p W) :
    Calls Tryd.prog 97 #[.string (txt l), .func (.func g) #[] #[], .bool false] w fun e w' => e = .returned (.int .i64 (idxI (idxB (fun x => p x == false) l))) ∧ Below w.heap.size w w' := by
  obtain ⟨R, hR⟩ : ∃ R, idxI (idxB (fun x => p x == false) l) = R := ⟨_, rfl⟩
  rw [hR]
  have HP := Lib.hid hp
  have HA := Lib.hid ha
  have HR : Hid (R = idxI ((idxB (fun x => p x == false) l).map (· + ([] : List UInt8).length))) := by show _ = _; rw [← hR]; cases idxB (fun x => p x == false) l <;> rfl
  clear hR hp ha
  go_enter Tryd.func97, Tryd.ntmps97
  go_wp2
  go_loopg [11] (l.length + 1) (fun gk v11 wr => ∃ a rest : List UInt8, Hid (l = a ++ rest) ∧ wr.heap[w.heap.size]? = some (.stringIter (txt l) a.length) ∧ rest.length < gk ∧ Hid (R = idxI ((idxB (fun x => p x == false) rest).map (· + a.length))) ∧ Hid (Below w.heap.size w wr))
  case atStart => exact ⟨[], l, rfl, World.iter_heap _ _ _, by omega, HR.out, (Below.refl _ _).alloc (Nat.le_refl _) _⟩
  case round =>
    clear HR
    obtain ⟨a, rest, HL, hi, hg, HR, HBw⟩ := hrel
    have hbs := HBw.out.size
    have hlt : w.heap.size < wr.heap.size := (Array.getElem?_eq_some_iff.1 hi).1
    have hal : a.length + rest.length = l.length := by rw [HL.out, List.length_append]
    cases rest with
    | nil =>
      have hpn : ¬ a.length < (txt l).size := by rw [HL.out, List.append_nil, txt_size]; omega
      have hny := fun ty => @run_next_end_at Tryd.prog wr w.heap.size _ _ ty hi hpn
      have HF : Hid (R = -1) := HR.out
      clear hpn HR
      go_wp2
      go_ret
      exact ⟨by rw [HF.out]; rfl, HBw.out⟩
    | cons c rest =>
      have hc : c.toNat < 128 := HA.out c (by rw [HL.out]; simp)
      obtain ⟨gk, rfl⟩ : ∃ m, gk = m + 1 := ⟨gk - 1, by simp at hg; omega⟩
      rw [List.length_cons] at hg hal
      have hny : ∀ ty, (Instr.next (.pointer (some ⟨w.heap.size, 0, none⟩)) true ty).run Tryd.prog wr = .ok (.tuple #[.bool true, .int .i64 a.length, .int .i32 c.toNat]) (wr.iterAt w.heap.size (txt l) (a ++ [c]).length) := fun ty => by
        have := next_part wr w.heap.size a [c] rest c.toNat (HL.out ▸ hi) (by simp) (decodeL_ascii c rest hc) ty
        rw [List.singleton_append, ← HL.out] at this
        exact this
      have HI2 := Lib.hid (iterAt_heap wr w.heap.size (txt l) _ (a ++ [c]).length hi)
      have HB2 := Lib.hid (below_iterAt HBw.out (Nat.le_refl _) (txt l) (a ++ [c]).length)
      have HL2 : Hid (l = (a ++ [c]) ++ rest) := by show _ = _; rw [List.append_assoc]; exact HL.out
      generalize wr.iterAt w.heap.size (txt l) (a ++ [c]).length = wj at *
      have CP := Lib.hid (HP.out wj c hc)
      have hstep : idxB (fun x => p x == false) (c :: rest) = if p c == false then some 0 else (idxB (fun x => p x == false) rest).map (· + 1) := rfl
      rw [hstep] at HR
      obtain ⟨y, hy⟩ : ∃ y, c.toNat = y := ⟨_, rfl⟩
      obtain ⟨px, hpx⟩ : ∃ q, p c = q := ⟨_, rfl⟩
      rw [hy] at CP hny
      rw [hpx] at CP HR
      clear hi hc hy hpx hstep
      cases px
      · have HF : Hid (R = (a.length : Int)) := by show _ = _; rw [HR.out]; simp [idxI]
        clear HR
        go_wp2_with (go_at_fn g; refine CP.out.mono ?_; rintro e wd ⟨rfl, hwd⟩; obtain rfl := hwd.symm)
        go_ret
        exact ⟨by rw [HF.out]; rfl, HB2.out⟩
      · have HF : Hid (R = idxI ((idxB (fun x => p x == false) rest).map (· + (a ++ [c]).length))) := by
          show _ = _
          rw [HR.out]
          cases idxB (fun x => p x == false) rest with
          | none => rfl
          | some i => simp [idxI]; omega
        clear HR
        go_wp2_with (go_at_fn g; refine CP.out.mono ?_; rintro e wd ⟨rfl, hwd⟩; obtain rfl := hwd.symm)
        go_roundg gk
        case rel => exact ⟨a ++ [c], rest, HL2.out, HI2.out, by omega, HF.out, HB2.out⟩
        case measure => omega
set_option maxRecDepth 100000 in
theorem stl_any (g : Nat) (eg : ∀ args w, (callFunc g args).run Tryd.prog w = .ok (.enter g args) w) (p : UInt8 → Bool) (l : List UInt8) (w : World)
    (ha : ∀ x ∈ l, x.toNat < 128) (hp : ∀ W, PredV g #[] p W) :
    Calls Tryd.prog 78 #[.string (txt l), .func (.func g) #[] #[]] w fun e w' => e = .returned (.string (txt (l.dropWhile p))) ∧ Below w.heap.size w w' := by
  have C := Lib.hid (sidx_any g eg p l w ha hp)
  rcases idxB_dw p (fun x => p x == false) (fun c => by cases p c <;> rfl) l with ⟨h1, h2, _⟩ | ⟨i, h1, h2, h3, _⟩
  · rw [h1] at C
    rw [h2]
    have C2 : Hid (Calls Tryd.prog 97 #[.string (txt l), .func (.func g) #[] #[], .bool false] w fun e w' => e = .returned (.int .i64 (-1)) ∧ Below w.heap.size w w') := C.out
    clear ha hp C h1 h2
    go_enter Tryd.func78, Tryd.ntmps78
    go_wp2_with (go_at_call 97; refine C2.out.mono ?_; rintro e wd ⟨rfl, hb⟩)
    go_ret
    exact ⟨rfl, hb⟩
  · rw [h1] at C
    rw [h3]
    have hsl := fun W => sdrop l i (by omega) W
    have C2 : Hid (Calls Tryd.prog 97 #[.string (txt l), .func (.func g) #[] #[], .bool false] w fun e w' => e = .returned (.int .i64 (i : Int)) ∧ Below w.heap.size w w') := C.out
    have hne : ¬ (i : Int) = -1 := by omega
    generalize l.drop i = D at *
    clear ha hp C h1 h3
    go_enter Tryd.func78, Tryd.ntmps78
    go_wp2_with (go_at_call 97; refine C2.out.mono ?_; rintro e wd ⟨rfl, hb⟩; have hsw := hsl wd)
    go_ret
    exact ⟨rfl, hb⟩
set_option maxHeartbeats 800000 in
set_option maxRecDepth 100000 in
theorem dlast (a : List UInt8) (c : UInt8) (w : World) (hc : c.toNat < 128) (hl : (a ++ [c]).length ≤ 1000000) :
    Calls Tryd.prog 95 #[.string (txt (a ++ [c]))] w fun e w' => e = .returned (.tuple #[.int .i32 c.toNat, .int .i64 1]) ∧ w' = w := by
  have hts := txt_size (a ++ [c])
  have hix := run_byte (a ++ [c]) a.length c (by simp) w
  obtain ⟨y, hy⟩ : ∃ y, c.toNat = y := ⟨_, rfl⟩
  rw [hy] at hc hix ⊢
  have hn : (a ++ [c]).length = a.length + 1 := by simp
  rw [hn] at hts hl
  obtain ⟨n, hn2⟩ : ∃ n, a.length = n := ⟨_, rfl⟩
  rw [hn2] at hts hl hix
  generalize a ++ [c] = T at *
  clear hy hn hn2
  have hcz : (y : Int) < 128 := by omega
  go_enter Tryd.func95, Tryd.ntmps95
  go_wp2
  go_ret2
  exact ⟨rfl, rfl⟩
set_option maxHeartbeats 1600000 in
set_option maxRecDepth 100000 in
theorem slast_any (g : Nat) (eg : ∀ args w, (callFunc g args).run Tryd.prog w = .ok (.enter g args) w) (p : UInt8 → Bool) (l : List UInt8) (w : World)
    (ha : ∀ x ∈ l, x.toNat < 128) (hl : l.length ≤ 1000000) (hp : ∀ W, PredV g #[] p W) :
    Calls Tryd.prog 76 #[.string (txt l), .func (.func g) #[] #[], .bool false] w fun e w' => e = .returned (.int .i64 ((trimR p l).length - 1)) ∧ w' = w := by
  obtain ⟨R, hR⟩ : ∃ R, ((trimR p l).length - 1 : Int) = R := ⟨_, rfl⟩
  rw [hR]
  have hts := txt_size l
  have HP := Lib.hid hp
  have HA := Lib.hid ha
  have HR : Hid (R = ((trimR p (l.take l.length)).length - 1 : Int)) := by show _ = _; rw [List.take_length]; exact hR.symm
  clear hR hp ha
  go_enter Tryd.func76, Tryd.ntmps76
  go_wp2
  go_loopg [7] (l.length + 1) (fun gk v7 wr => ∃ k : Nat, v7 = .int .i64 k ∧ k ≤ l.length ∧ k < gk ∧ Hid (R = ((trimR p (l.take k)).length - 1 : Int)) ∧ wr = w)
  case atStart => exact ⟨l.length, rfl, by omega, by omega, HR.out, rfl⟩
  case round =>
    clear HR
    obtain ⟨k, rfl, hk, hg, HR, hwr⟩ := hrel
    obtain rfl := hwr.symm
    by_cases h0 : k = 0
    · subst h0
      have HF : Hid (R = -1) := HR.out
      clear HR
      go_wp2
      go_ret
      exact ⟨by rw [HF.out]; rfl, rfl⟩
    · obtain ⟨m, rfl⟩ : ∃ m, k = m + 1 := ⟨k - 1, by omega⟩
      obtain ⟨gk, rfl⟩ : ∃ m, gk = m + 1 := ⟨gk - 1, by omega⟩
      have hml : m < l.length := by omega
      have htk := List.take_succ_eq_append_getElem hml
      have hc := HA.out _ (List.getElem_mem hml)
      generalize l[m] = c at htk hc
      have hsl := stake l (m + 1) hk w
      rw [show ((m + 1 : Nat) : Int) = (m : Int) + 1 from rfl] at hsl
      have CD := Lib.hid (dlast (l.take m) c w hc (by rw [← htk, List.length_take]; omega))
      rw [← htk] at CD
      have CP := Lib.hid (HP.out w c hc)
      rw [htk, trimR_snoc] at HR
      have hlen : (l.take m ++ [c]).length = m + 1 := by rw [← htk, List.length_take]; omega
      obtain ⟨y, hy⟩ : ∃ y, c.toNat = y := ⟨_, rfl⟩
      obtain ⟨px, hpx⟩ : ∃ q, p c = q := ⟨_, rfl⟩
      rw [hy] at CP CD
      rw [hpx] at CP HR
      have hwr1 : ((m + 1 : Nat) : Int) - 1 = m := by omega
      clear hc hy hpx htk
      cases px
      · have HF : Hid (R = (m : Int)) := by show _ = _; rw [HR.out]; simp only [Bool.false_eq_true, if_false]; rw [hlen]; omega
        clear HR hlen
        go_wp2_with (first | (go_at_call 95; refine CD.out.mono ?_; rintro e wd ⟨rfl, hwd⟩; obtain rfl := hwd.symm) | (go_at_fn g; refine CP.out.mono ?_; rintro e wd ⟨rfl, hwd⟩; obtain rfl := hwd.symm))
        go_ret
        refine ⟨?_, rfl⟩
        rw [HF.out]
        first | rfl | (show Ending.returned (Value.int .i64 _) = _; congr 2; omega)
      · have HF : Hid (R = ((trimR p (l.take m)).length - 1 : Int)) := HR.out
        clear HR hlen
        go_wp2_with (first | (go_at_call 95; refine CD.out.mono ?_; rintro e wd ⟨rfl, hwd⟩; obtain rfl := hwd.symm) | (go_at_fn g; refine CP.out.mono ?_; rintro e wd ⟨rfl, hwd⟩; obtain rfl := hwd.symm))
        go_roundg gk
        case rel => exact ⟨m, by go_num, by omega, by omega, HF.out, rfl⟩
        case measure => omega
set_option maxHeartbeats 800000 in
set_option maxRecDepth 100000 in
theorem str_any (g : Nat) (eg : ∀ args w, (callFunc g args).run Tryd.prog w = .ok (.enter g args) w) (p : UInt8 → Bool) (l : List UInt8) (w : World)
    (ha : ∀ x ∈ l, x.toNat < 128) (hl : l.length ≤ 1000000) (hp : ∀ W, PredV g #[] p W) :
    Calls Tryd.prog 52 #[.string (txt l), .func (.func g) #[] #[]] w fun e w' => e = .returned (.string (txt (trimR p l))) ∧ w' = w := by
  have C := Lib.hid (slast_any g eg p l w ha hl hp)
  obtain ⟨h1, h2⟩ := trimR_take p l
  obtain ⟨T, hT⟩ : ∃ T, trimR p l = T := ⟨_, rfl⟩
  rw [hT] at C h1 h2 ⊢
  clear hT hp
  have hts := txt_size l
  by_cases h0 : T.length = 0
  · obtain rfl : T = [] := List.eq_nil_of_length_eq_zero h0
    have C2 : Hid (Calls Tryd.prog 76 #[.string (txt l), .func (.func g) #[] #[], .bool false] w fun e w' => e = .returned (.int .i64 (-1)) ∧ w' = w) := C.out
    have hsl := stake l 0 (by omega) w
    rw [List.take_zero] at hsl
    clear C ha h1 h2 h0
    go_enter Tryd.func52, Tryd.ntmps52
    go_wp2_with (go_at_call 76; refine C2.out.mono ?_; rintro e wd ⟨rfl, hwd⟩; obtain rfl := hwd.symm)
    go_ret
    exact ⟨rfl, rfl⟩
  · obtain ⟨m, hm⟩ : ∃ m, T.length = m + 1 := ⟨T.length - 1, by omega⟩
    rw [hm] at C h1 h2
    have hml : m < l.length := by omega
    have C2 : Hid (Calls Tryd.prog 76 #[.string (txt l), .func (.func g) #[] #[], .bool false] w fun e w' => e = .returned (.int .i64 (m : Int)) ∧ w' = w) := by
      refine C.out.mono ?_
      rintro e w' ⟨rfl, hw⟩
      exact ⟨by congr 2; omega, hw⟩
    have hsl := stake l (m + 1) h2 w
    rw [h1, show ((m + 1 : Nat) : Int) = (m : Int) + 1 from rfl] at hsl
    have hsd := sdrop l m (by omega) w
    have hd := List.drop_eq_getElem_cons hml
    have hc := ha _ (List.getElem_mem hml)
    generalize l[m] = c at hd hc
    have CD := Lib.hid (Tryd.utf8_DecodeRuneInString_ascii (txt (l.drop m)) c w (by rw [txt_list, hd]; rfl) hc)
    clear C ha h1 h0 hm hd
    generalize l.drop m = D at *
    obtain ⟨y, hy⟩ : ∃ y, c.toNat = y := ⟨_, rfl⟩
    rw [hy] at CD hc
    clear hy
    go_enter Tryd.func52, Tryd.ntmps52
    go_wp2_with (first | (go_at_call 76; refine C2.out.mono ?_; rintro e wd ⟨rfl, hwd⟩; obtain rfl := hwd.symm) | (go_at_call 77; refine CD.out.mono ?_; rintro e wd ⟨rfl, hwd⟩; obtain rfl := hwd.symm))
    go_ret
    exact ⟨rfl, rfl⟩
theorem dw_mem {p : UInt8 → Bool} {l : List UInt8} {x : UInt8} (h : x ∈ l.dropWhile p) : x ∈ l := (List.dropWhile_suffix p).subset h
set_option maxRecDepth 100000 in
theorem stf_any (g : Nat) (eg : ∀ args w, (callFunc g args).run Tryd.prog w = .ok (.enter g args) w) (p : UInt8 → Bool) (l : List UInt8) (w : World)
    (ha : ∀ x ∈ l, x.toNat < 128) (hl : l.length ≤ 1000000) (hp : ∀ W, PredV g #[] p W) :
    Calls Tryd.prog 56 #[.string (txt l), .func (.func g) #[] #[]] w fun e w' => e = .returned (.string (txt (trimB p l))) ∧ Below w.heap.size w w' := by
  have C1 := Lib.hid (stl_any g eg p l w ha hp)
  have hdl := drop_le p l
  have C2 := Lib.hid fun W => str_any g eg p (l.dropWhile p) W (fun x hx => ha x (dw_mem hx)) (by omega) hp
  clear ha hp
  go_enter Tryd.func56, Tryd.ntmps56
  go_wp2_with (first | (go_at_call 78; refine C1.out.mono ?_; rintro e wd ⟨rfl, hb⟩) | (go_at_call 52; refine (C2.out _).mono ?_; rintro e wd2 ⟨rfl, hwd⟩; obtain rfl := hwd.symm))
  go_ret
  exact ⟨rfl, hb⟩
end Go.Proofs.YtdfhidnhkeapbaaDoor
