/- Slices of bytes; what a function value tells of each byte; package bytes' finder and trimmer over it. Condition: bytes below 128. -/
import Derived.Test.YtdfhidnhkeapbaaDoorEIdx
import Derived.Test.YtdfhidnhkeapbaaDoorJPlain
namespace Go.Proofs.YtdfhidnhkeapbaaDoor
open Go.RowKit U8
open Go.Lib hiding intOf

/-- The bytes that a slice holds. -/
def Bz (W : World) (ao : Option Addr) (cap : Nat) (l : List UInt8) : Prop := l.length ≤ cap ∧ ∀ (j : Nat) (x : UInt8), l[j]? = some x → ∃ g o, ao = some ⟨g, o, none⟩ ∧ W.cell? ⟨g, o + j, none⟩ = some (.int .u8 x.toNat)
theorem Bz.below {W W' : World} {ao : Option Addr} {cap : Nat} {l : List UInt8} (h : Bz W ao cap l) (hb : Below W.heap.size W W') : Bz W' ao cap l := by
  refine ⟨h.1, fun j x hj => ?_⟩
  obtain ⟨g, o, e, hc⟩ := h.2 j x hj
  exact ⟨g, o, e, (hb.cell (World.block_lt_of_cell? W _ hc)).trans hc⟩
theorem bz_nil (W : World) : Bz W none 0 [] := ⟨Nat.le_refl _, fun j x h => by simp at h⟩
def movA (ao : Option Addr) (cap i : Nat) : Option Addr := if cap = i then ao else ao.map (·.add i)
theorem Bz.drop {W : World} {ao : Option Addr} {cap : Nat} {l : List UInt8} (h : Bz W ao cap l) (i : Nat) (hi : i ≤ l.length) : Bz W (movA ao cap i) (cap - i) (l.drop i) := by
  have hc := h.1
  refine ⟨by rw [List.length_drop]; omega, fun j x hj => ?_⟩
  rw [List.getElem?_drop] at hj
  have hl := (List.getElem?_eq_some_iff.1 hj).1
  obtain ⟨g, o, rfl, hx⟩ := h.2 _ x hj
  have hne : cap ≠ i := by omega
  unfold movA
  rw [if_neg hne]
  exact ⟨g, o + i, by rw [Option.map_some]; congr 1; unfold Addr.add; split <;> simp_all, by rw [Nat.add_assoc]; exact hx⟩
theorem Bz.take {W : World} {ao : Option Addr} {cap : Nat} {l : List UInt8} (h : Bz W ao cap l) (i : Nat) (hi : i ≤ l.length) : Bz W ao cap (l.take i) := by
  have hc := h.1
  refine ⟨by rw [List.length_take]; omega, fun j x hj => ?_⟩
  have hl := (List.getElem?_eq_some_iff.1 hj).1
  rw [List.length_take] at hl
  rw [List.getElem?_take_of_lt (by omega)] at hj
  exact h.2 _ x hj
theorem bslice (W : World) (ao : Option Addr) (n cap i : Nat) (hi : i ≤ n) :
    (Instr.slice 52 (.slice ao n cap) (some (.int .i64 i)) none none).run Tryd.prog W = .ok (.slice (movA ao cap i) (n - i) (cap - i)) W := by
  rw [run_slice_l W 52 ao n cap (by kernel_rfl) .i64 i (by omega) (by omega)]
  have : (sizeOf (Tryd.prog.elem 52)).run Tryd.prog W = .ok 1 W := by kernel_rfl
  rw [this]
  simp [Result.andThen, sliced, movA]
theorem bslice0 (W : World) (ao : Option Addr) (n cap i : Nat) (hi : i ≤ n) (hc : n ≤ cap) :
    (Instr.slice 52 (.slice ao n cap) (some (.int .i64 0)) (some (.int .i64 i)) none).run Tryd.prog W = .ok (.slice ao i cap) W := by
  rw [run_slice_lh W 52 ao n cap (by kernel_rfl) .i64 .i64 0 i (by omega) (by omega) (by omega)]
  have : (sizeOf (Tryd.prog.elem 52)).run Tryd.prog W = .ok 1 W := by kernel_rfl
  rw [this]
  simp only [Result.andThen, sliced]
  cases ao with
  | none => simp
  | some a => simp [Addr.add_zero']
/-- What a function value tells of a byte. -/
def PredV (g : Nat) (lb : Array Value) (p : UInt8 → Bool) (W : World) : Prop := ∀ x : UInt8, x.toNat < 128 → Calls Tryd.prog g (#[.int .i32 x.toNat] ++ lb) W fun e w' => e = .returned (.bool (p x)) ∧ w' = W
def idxB (q : UInt8 → Bool) : List UInt8 → Option Nat
  | [] => none
  | c :: t => if q c then some 0 else (idxB q t).map (· + 1)
theorem idxB_none {q : UInt8 → Bool} : ∀ l : List UInt8, idxB q l = none → (∀ c ∈ l, q c = false)
  | [], _, _, hc => by simp at hc
  | c :: t, h, x, hx => by
    unfold idxB at h
    split at h
    · cases h
    · rename_i hq
      rcases List.mem_cons.1 hx with rfl | hx
      · simpa using hq
      · exact idxB_none t (by cases e : idxB q t with | none => rfl | some i => rw [e] at h; cases h) x hx
theorem idxB_some {q : UInt8 → Bool} : ∀ (l : List UInt8) (i : Nat), idxB q l = some i → i < l.length ∧ (∀ c ∈ l.take i, q c = false) ∧ ∃ c t, l.drop i = c :: t ∧ q c = true
  | [], _, h => by cases h
  | c :: t, i, h => by
    unfold idxB at h
    split at h
    · rename_i hq
      cases h
      exact ⟨by simp, fun x hx => by simp at hx, c, t, rfl, hq⟩
    · rename_i hq
      cases e : idxB q t with
      | none => rw [e] at h; cases h
      | some k =>
        rw [e] at h
        cases h
        obtain ⟨h1, h2, h3⟩ := idxB_some t k e
        refine ⟨by simp; omega, fun x hx => ?_, h3⟩
        rw [List.take_succ_cons] at hx
        rcases List.mem_cons.1 hx with rfl | hx
        · simpa using hq
        · exact h2 x hx
theorem dw_of {p : UInt8 → Bool} : ∀ (a b : List UInt8), (∀ c ∈ a, p c = true) → (b = [] ∨ ∃ c t, b = c :: t ∧ p c = false) → (a ++ b).dropWhile p = b ∧ (a ++ b).takeWhile p = a
  | [], b, _, hb => by
    rcases hb with rfl | ⟨c, t, rfl, hc⟩
    · exact ⟨rfl, rfl⟩
    · simp [hc]
  | x :: a, b, ha, hb => by
    have hx := ha x (List.mem_cons_self ..)
    obtain ⟨h1, h2⟩ := dw_of a b (fun c hc => ha c (List.mem_cons_of_mem _ hc)) hb
    simp [hx, h1, h2]
/-- The first byte that a predicate does not hold of. -/
theorem idxB_dw (p q : UInt8 → Bool) (hq : ∀ c, q c = !p c) (l : List UInt8) : (idxB q l = none ∧ l.dropWhile p = [] ∧ l.takeWhile p = l) ∨ ∃ i, idxB q l = some i ∧ i < l.length ∧ l.dropWhile p = l.drop i ∧ l.takeWhile p = l.take i := by
  cases h : idxB q l with
  | none =>
    have hn := idxB_none l h
    have := dw_of (p := p) l [] (fun c hc => by have := hn c hc; rw [hq] at this; simpa using this) (.inl rfl)
    rw [List.append_nil] at this
    exact .inl ⟨rfl, this.1, this.2⟩
  | some i =>
    obtain ⟨h1, h2, c, t, h3, h4⟩ := idxB_some l i h
    have := dw_of (p := p) (l.take i) (l.drop i) (fun c hc => by have := h2 c hc; rw [hq] at this; simpa using this) (.inr ⟨c, t, h3, by rw [hq] at h4; simpa using h4⟩)
    rw [List.take_append_drop] at this
    exact .inr ⟨i, rfl, h1, this.1, this.2⟩
set_option maxHeartbeats 800000 in
set_option maxRecDepth 100000 in
theorem dec_asc (x : UInt8) (t : List UInt8) (ao : Option Addr) (cap : Nat) (w : World) (hx : x.toNat < 128) (h : Bz w ao cap (x :: t)) :
    Calls Tryd.prog 82 #[.slice ao (x :: t).length cap] w fun e w' => e = .returned (.tuple #[.int .i32 x.toNat, .int .i64 1]) ∧ w' = w := by
  obtain ⟨g, o, rfl, hc⟩ := h.2 0 x rfl
  obtain ⟨n, hn⟩ : ∃ n, (x :: t).length = n := ⟨_, rfl⟩
  have h0 : 0 < n := by rw [← hn]; simp
  obtain ⟨y, hy⟩ : ∃ y, x.toNat = y := ⟨_, rfl⟩
  have hcap := h.1
  rw [hn] at hcap ⊢
  rw [hy] at hx hc ⊢
  clear hn hy h
  rw [Nat.add_zero] at hc
  go_enter Tryd.func82, Tryd.ntmps82
  go_wp2
  go_loopg [8] 1 (fun gk v8 wr => v8 = .int .i64 0 ∧ wr = w)
  case atStart => exact ⟨rfl, rfl⟩
  case round =>
    obtain ⟨rfl, hw⟩ := hrel
    obtain rfl := hw.symm
    go_wp2
    go_ret2
    exact ⟨rfl, rfl⟩
set_option maxHeartbeats 1600000 in
set_option maxRecDepth 100000 in
theorem idxf_any (g : Nat) (lb : Array Value) (eg : ∀ args w, (callFunc g args).run Tryd.prog w = .ok (.enter g args) w) (p : UInt8 → Bool) (truth : Bool) (l : List UInt8) (ao : Option Addr) (cap : Nat) (w : World)
    (hB : Bz w ao cap l) (ha : ∀ x ∈ l, x.toNat < 128) (hl : l.length ≤ 1000000) (hp : PredV g lb p w) :
    Calls Tryd.prog 72 #[.slice ao l.length cap, .func (.func g) #[] lb, .bool truth] w fun e w' => e = .returned (.int .i64 (idxI (idxB (fun x => p x == truth) l))) ∧ w' = w := by
  obtain ⟨R, hR⟩ : ∃ R, idxI (idxB (fun x => p x == truth) l) = R := ⟨_, rfl⟩
  rw [hR]
  obtain ⟨n, hn⟩ : ∃ n, l.length = n := ⟨_, rfl⟩
  have HN := Lib.hid hn
  have HP := Lib.hid hp
  have HA := Lib.hid ha
  have HB := Lib.hid hB
  have HR : Hid (R = idxI ((idxB (fun x => p x == truth) (l.drop 0)).map (· + 0))) := by show _ = _; rw [← hR, List.drop_zero]; cases idxB (fun x => p x == truth) l <;> rfl
  have hcap : n ≤ cap := hn ▸ hB.1
  rw [hn] at hl ⊢
  clear hR hp ha hB hn
  go_enter Tryd.func72, Tryd.ntmps72
  go_wp2
  go_loopg [7] (n + 1) (fun gk v7 wr => ∃ k : Nat, v7 = .int .i64 k ∧ k ≤ n ∧ n - k < gk ∧ Hid (R = idxI ((idxB (fun x => p x == truth) (l.drop k)).map (· + k))) ∧ wr = w)
  case atStart => exact ⟨0, rfl, by omega, by omega, HR.out, rfl⟩
  case round =>
    clear HR
    obtain ⟨k, rfl, hk, hg, HR, hwr⟩ := hrel
    obtain rfl := hwr.symm
    by_cases hlt : k < n
    · obtain ⟨gk, rfl⟩ : ∃ m, gk = m + 1 := ⟨gk - 1, by omega⟩
      have hkl : k < l.length := by have := HN.out; omega
      have hd := List.drop_eq_getElem_cons hkl
      have hmem := List.getElem_mem hkl
      generalize l[k] = x at hd hmem
      have hx := HA.out x hmem
      have hsl := bslice w ao n cap k hk
      have hdl : (x :: l.drop (k + 1)).length = n - k := by rw [← hd, List.length_drop, HN.out]
      have hBd := HB.out.drop k (by omega)
      rw [hd] at hBd
      have CD := Lib.hid (dec_asc x (l.drop (k + 1)) _ _ w hx hBd)
      rw [hdl] at CD
      have CP := Lib.hid (HP.out x hx)
      have hstep : idxB (fun x => p x == truth) (l.drop k) = if p x == truth then some 0 else (idxB (fun x => p x == truth) (l.drop (k + 1))).map (· + 1) := by rw [hd]; rfl
      obtain ⟨y, hy⟩ : ∃ y, x.toNat = y := ⟨_, rfl⟩
      obtain ⟨px, hpx⟩ : ∃ q, p x = q := ⟨_, rfl⟩
      rw [hy] at CD CP hx
      rw [hpx] at CP hstep
      have HST := Lib.hid hstep
      generalize movA ao cap k = am at *
      clear hd hmem hBd hdl hy hpx hstep
      cases px <;> cases truth
      · have HF : Hid (R = (k : Int)) := by show _ = _; rw [HR.out, HST.out]; simp [idxI]
        clear HR HST
        go_wp2_with (first | (go_at_call 82; refine CD.out.mono ?_; rintro e wd ⟨rfl, hwd⟩; obtain rfl := hwd.symm) | (go_at_fn g; refine CP.out.mono ?_; rintro e wd ⟨rfl, hwd⟩; obtain rfl := hwd.symm))
        go_ret
        exact ⟨by rw [HF.out]; rfl, rfl⟩
      · have HF : Hid (R = idxI ((idxB (fun x => p x == true) (l.drop (k + 1))).map (· + (k + 1)))) := by
          show _ = _
          rw [HR.out, HST.out]
          cases idxB (fun x => p x == true) (l.drop (k + 1)) with
          | none => rfl
          | some i => simp [idxI]; omega
        clear HR HST
        go_wp2_with (first | (go_at_call 82; refine CD.out.mono ?_; rintro e wd ⟨rfl, hwd⟩; obtain rfl := hwd.symm) | (go_at_fn g; refine CP.out.mono ?_; rintro e wd ⟨rfl, hwd⟩; obtain rfl := hwd.symm))
        go_roundg gk
        case rel => exact ⟨k + 1, by go_num, by omega, by omega, HF.out, rfl⟩
        case measure => omega
      · have HF : Hid (R = idxI ((idxB (fun x => p x == false) (l.drop (k + 1))).map (· + (k + 1)))) := by
          show _ = _
          rw [HR.out, HST.out]
          cases idxB (fun x => p x == false) (l.drop (k + 1)) with
          | none => rfl
          | some i => simp [idxI]; omega
        clear HR HST
        go_wp2_with (first | (go_at_call 82; refine CD.out.mono ?_; rintro e wd ⟨rfl, hwd⟩; obtain rfl := hwd.symm) | (go_at_fn g; refine CP.out.mono ?_; rintro e wd ⟨rfl, hwd⟩; obtain rfl := hwd.symm))
        go_roundg gk
        case rel => exact ⟨k + 1, by go_num, by omega, by omega, HF.out, rfl⟩
        case measure => omega
      · have HF : Hid (R = (k : Int)) := by show _ = _; rw [HR.out, HST.out]; simp [idxI]
        clear HR HST
        go_wp2_with (first | (go_at_call 82; refine CD.out.mono ?_; rintro e wd ⟨rfl, hwd⟩; obtain rfl := hwd.symm) | (go_at_fn g; refine CP.out.mono ?_; rintro e wd ⟨rfl, hwd⟩; obtain rfl := hwd.symm))
        go_ret
        exact ⟨by rw [HF.out]; rfl, rfl⟩
    · obtain rfl : k = n := by omega
      have HF : Hid (R = -1) := by
        show _ = _
        rw [HR.out, ← HN.out, List.drop_length]; rfl
      clear HR
      go_wp2
      go_ret
      exact ⟨by rw [HF.out]; rfl, rfl⟩
set_option maxRecDepth 100000 in
theorem Idxf_any (g : Nat) (lb : Array Value) (eg : ∀ args w, (callFunc g args).run Tryd.prog w = .ok (.enter g args) w) (p : UInt8 → Bool) (l : List UInt8) (ao : Option Addr) (cap : Nat) (w : World)
    (hB : Bz w ao cap l) (ha : ∀ x ∈ l, x.toNat < 128) (hl : l.length ≤ 1000000) (hp : PredV g lb p w) :
    Calls Tryd.prog 43 #[.slice ao l.length cap, .func (.func g) #[] lb] w fun e w' => e = .returned (.int .i64 (idxI (idxB p l))) ∧ w' = w := by
  have C := Lib.hid (idxf_any g lb eg p true l ao cap w hB ha hl hp)
  have e : (fun x => p x == true) = p := funext fun x => by cases p x <;> rfl
  rw [e] at C
  clear e
  clear hB ha hp
  go_enter Tryd.func43, Tryd.ntmps43
  go_wp2_with (go_at_call 72; refine C.out.mono ?_; rintro e wd ⟨rfl, hwd⟩; obtain rfl := hwd.symm)
  go_ret
  exact ⟨rfl, rfl⟩
set_option maxRecDepth 100000 in
/-- bytes.TrimLeftFunc. -/
theorem trimL_any (g : Nat) (lb : Array Value) (eg : ∀ args w, (callFunc g args).run Tryd.prog w = .ok (.enter g args) w) (p : UInt8 → Bool) (l : List UInt8) (ao : Option Addr) (cap : Nat) (w : World)
    (hB : Bz w ao cap l) (ha : ∀ x ∈ l, x.toNat < 128) (hl : l.length ≤ 1000000) (hp : PredV g lb p w) :
    Calls Tryd.prog 45 #[.slice ao l.length cap, .func (.func g) #[] lb] w fun e w' => (∃ a2 c2, e = .returned (.slice a2 (l.dropWhile p).length c2) ∧ Bz w a2 c2 (l.dropWhile p)) ∧ w' = w := by
  have C := Lib.hid (idxf_any g lb eg p false l ao cap w hB ha hl hp)
  rcases idxB_dw p (fun x => p x == false) (fun c => by cases p c <;> rfl) l with ⟨h1, h2, _⟩ | ⟨i, h1, h2, h3, _⟩
  · rw [h1] at C
    rw [h2]
    have C2 : Hid (Calls Tryd.prog 72 #[.slice ao l.length cap, .func (.func g) #[] lb, .bool false] w fun e w' => e = .returned (.int .i64 (-1)) ∧ w' = w) := C.out
    clear hB ha hp C h1 h2
    go_enter Tryd.func45, Tryd.ntmps45
    go_wp2_with (go_at_call 72; refine C2.out.mono ?_; rintro e wd ⟨rfl, hwd⟩; obtain rfl := hwd.symm)
    go_ret
    exact ⟨⟨none, 0, rfl, bz_nil _⟩, rfl⟩
  · rw [h1] at C
    have HD := Lib.hid (hB.drop i (by omega))
    rw [← h3] at HD
    have hln : (l.dropWhile p).length = l.length - i := by rw [h3, List.length_drop]
    rw [hln]
    have hsl := bslice w ao l.length cap i (by omega)
    have C2 : Hid (Calls Tryd.prog 72 #[.slice ao l.length cap, .func (.func g) #[] lb, .bool false] w fun e w' => e = .returned (.int .i64 (i : Int)) ∧ w' = w) := C.out
    have hne : ¬ (i : Int) = -1 := by omega
    generalize movA ao cap i = am at *
    clear hB ha hp C h1 h3 hln
    go_enter Tryd.func45, Tryd.ntmps45
    go_wp2_with (go_at_call 72; refine C2.out.mono ?_; rintro e wd ⟨rfl, hwd⟩; obtain rfl := hwd.symm)
    go_ret
    exact ⟨⟨am, cap - i, rfl, HD.out⟩, rfl⟩
end Go.Proofs.YtdfhidnhkeapbaaDoor
