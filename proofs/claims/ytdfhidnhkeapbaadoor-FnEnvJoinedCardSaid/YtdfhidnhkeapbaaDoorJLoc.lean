/- godotenv.getStatementStart and locateKeyName over a slice of bytes. Condition: bytes below 128. -/
import Derived.Test.YtdfhidnhkeapbaaDoorJStr
namespace Go.Proofs.YtdfhidnhkeapbaaDoor
open Go.RowKit U8
open Go.Lib hiding intOf

theorem bz_text (W : World) (g o cap : Nat) (l : List UInt8) (k : Nat) (h : Bz W (some ⟨g, o, none⟩) cap l) (hk : k ≤ l.length) :
    (convert 52 9 (.slice (some ⟨g, o, none⟩) k cap)).run Tryd.prog W = .ok (.string (txt (l.take k))) W := by
  have hn : (l.take k).length = k := by rw [List.length_take]; omega
  have := run_convert_bytes_arg (P := Tryd.prog) W 52 5 Tryd.underlying52 Tryd.underlying5 g o k cap ((l.take k).map fun b => (b.toNat : Int)) (by simpa using hn) (fun i hi => by
    have hil : i < l.length := by omega
    obtain ⟨g2, o2, e, hc⟩ := h.2 i _ (List.getElem?_eq_getElem hil)
    cases e
    rw [hc, List.getD_eq_getElem?_getD, List.getElem?_map, List.getElem?_take_of_lt hi, List.getElem?_eq_getElem hil]
    rfl)
  rw [this 9 Tryd.underlying9]
  congr 2
  unfold strOfNums
  refine ByteArray.ext ?_
  show (List.map (fun n : Int => UInt8.ofNat n.toNat) ((l.take k).map fun b => (b.toNat : Int))).toArray = (l.take k).toArray
  rw [List.map_map]
  congr 1
  conv => rhs; rw [← List.map_id (l.take k)]
  refine List.map_congr_left fun b _ => ?_
  simp
theorem asc_sub {l l2 : List UInt8} (h : l2 <:+ l) (ha : ∀ x ∈ l, x.toNat < 128) : ∀ x ∈ l2, x.toNat < 128 := fun x hx => ha x (h.subset hx)
theorem eg_nws : ∀ args w, (callFunc 71 args).run Tryd.prog w = .ok (.enter 71 args) w := enters_of Tryd.func71 (by kernel_rfl) rfl
theorem eg_nl : ∀ args w, (callFunc 73 args).run Tryd.prog w = .ok (.enter 73 args) w := enters_of Tryd.func73 (by kernel_rfl) rfl
theorem eg_sp : ∀ args w, (callFunc 46 args).run Tryd.prog w = .ok (.enter 46 args) w := enters_of Tryd.func46 (by kernel_rfl) rfl
theorem eg_ws : ∀ args w, (callFunc 53 args).run Tryd.prog w = .ok (.enter 53 args) w := enters_of Tryd.func53 (by kernel_rfl) rfl
theorem eg_ln : ∀ args w, (callFunc 55 args).run Tryd.prog w = .ok (.enter 55 args) w := enters_of Tryd.func55 (by kernel_rfl) rfl
set_option maxRecDepth 100000 in
theorem ions_any (l : List UInt8) (ao : Option Addr) (cap : Nat) (w : World) (hB : Bz w ao cap l) (ha : ∀ x ∈ l, x.toNat < 128) (hl : l.length ≤ 1000000) :
    Calls Tryd.prog 42 #[.slice ao l.length cap] w fun e w' => e = .returned (.int .i64 (idxI (idxB (fun x => !isWsB x) l))) ∧ w' = w := by
  have C := Lib.hid (Idxf_any 71 #[] eg_nws (fun x => !isWsB x) l ao cap w hB ha hl (nws_pred w))
  clear hB ha
  go_enter Tryd.func42, Tryd.ntmps42
  go_wp2_with (go_at_call 43; refine C.out.mono ?_; rintro e wd ⟨rfl, hwd⟩; obtain rfl := hwd.symm)
  go_ret
  exact ⟨rfl, rfl⟩
/-- How getStatementStart ends. -/
def StP (l : List UInt8) (w : World) (e : Ending) (w' : World) : Prop :=
  (∃ a c, e = .returned (.slice a ((startS l).getD []).length c) ∧ Bz w' a c ((startS l).getD []) ∧ (startS l = none → a = none ∧ c = 0)) ∧ Below w.heap.size w w'
set_option maxHeartbeats 1600000 in
set_option maxRecDepth 100000 in
theorem gss_any : ∀ (n : Nat) (l : List UInt8) (ao : Option Addr) (cap : Nat) (w : World), l.length < n → Bz w ao cap l → (∀ x ∈ l, x.toNat < 128) → l.length ≤ 1000000 →
    Calls Tryd.prog 36 #[.slice ao l.length cap] w (StP l w)
  | 0, l, _, _, _, h, _, _, _ => by omega
  | n + 1, l, ao, cap, w, hn, hB, ha, hl => by
    have C := Lib.hid (ions_any l ao cap w hB ha hl)
    rcases idxB_dw isWsB (fun x => !isWsB x) (fun c => rfl) l with ⟨h1, h2, _⟩ | ⟨i, h1, h2, h3, _⟩
    · rw [h1] at C
      have C2 : Hid (Calls Tryd.prog 42 #[.slice ao l.length cap] w fun e w' => e = .returned (.int .i64 (-1)) ∧ w' = w) := C.out
      have HF : Hid (∀ W, Below w.heap.size w W → StP l w (.returned (.slice none 0 0)) W) := by
        show ∀ _, _ → _
        intro W hb
        unfold StP
        rw [startS_nil h2]
        exact ⟨⟨none, 0, rfl, bz_nil _, fun _ => ⟨rfl, rfl⟩⟩, hb⟩
      obtain ⟨Q, hQ⟩ : ∃ Q, StP l w = Q := ⟨_, rfl⟩
      rw [hQ] at HF ⊢
      clear C h1 h2 hQ hB ha hn
      go_enter Tryd.func36, Tryd.ntmps36
      go_wp2_with (go_at_call 42; refine C2.out.mono ?_; rintro e wd ⟨rfl, hwd⟩; obtain rfl := hwd.symm)
      exact HF.out _ (Below.refl _ _)
    · rw [h1] at C
      have C2 : Hid (Calls Tryd.prog 42 #[.slice ao l.length cap] w fun e w' => e = .returned (.int .i64 (i : Int)) ∧ w' = w) := C.out
      have hne : ¬ (i : Int) = -1 := by omega
      have hBd := hB.drop i (by omega)
      have hsl := bslice w ao l.length cap i (by omega)
      have hld : (l.drop i).length = l.length - i := List.length_drop ..
      have had := asc_sub (List.drop_suffix i l) ha
      rw [← hld] at hsl
      clear C h1 hB
      cases hd : l.drop i with
      | nil => rw [hd] at hld; simp at hld; omega
      | cons c t =>
        rw [hd] at hBd hsl hld had
        rw [hd] at h3
        obtain ⟨g, o, hmv, hc0⟩ := hBd.2 0 c rfl
        rw [hmv] at hBd hsl
        rw [Nat.add_zero] at hc0
        clear hmv
        obtain ⟨cp, hcp⟩ : ∃ x, cap - i = x := ⟨_, rfl⟩
        rw [hcp] at hBd hsl
        clear hcp
        have hc128 := had c (List.mem_cons_self ..)
        have hpos : 0 < (c :: t).length := by simp
        by_cases h35 : c = 35
        · subst h35
          have hst : startS l = startS (t.dropWhile notNl) := startS_note h3
          have hBn : Bz (w.alloc (.cells #[.int .i32 10] 21)) (some ⟨g, o, none⟩) cp (35 :: t) := hBd.below ((Below.refl _ w).alloc (Nat.le_refl _) _)
          have CN := Lib.hid (Idxf_any 73 #[.pointer (some ⟨w.heap.size, 0, none⟩)] eg_nl (fun x => !notNl x) (35 :: t) _ _ _ hBn had (by omega) (nl_pred w.heap.size _ (by rw [World.cell?_alloc_new]; rfl)))
          have HBW := Lib.hid ((Below.refl w.heap.size w).alloc (Nat.le_refl _) (.cells #[.int .i32 10] 21))
          have hdw : (35 :: t).dropWhile notNl = t.dropWhile notNl := rfl
          rcases idxB_dw notNl (fun x => !notNl x) (fun c => rfl) (35 :: t) with ⟨k1, k2, _⟩ | ⟨j, k1, k2, k3, _⟩
          · rw [k1] at CN
            have CN2 : Hid (Calls Tryd.prog 43 #[.slice (some ⟨g, o, none⟩) (35 :: t).length cp, .func (.func 73) #[] #[.pointer (some ⟨w.heap.size, 0, none⟩)]] (w.alloc (.cells #[.int .i32 10] 21)) fun e w' => e = .returned (.int .i64 (-1)) ∧ w' = w.alloc (.cells #[.int .i32 10] 21)) := CN.out
            have HF : Hid (∀ W, Below w.heap.size w W → StP l w (.returned (.slice none 0 0)) W) := by
              show ∀ _, _ → _
              intro W hb
              unfold StP
              rw [hst, ← hdw, k2, show startS [] = none from rfl]
              exact ⟨⟨none, 0, rfl, bz_nil _, fun _ => ⟨rfl, rfl⟩⟩, hb⟩
            obtain ⟨Q, hQ⟩ : ∃ Q, StP l w = Q := ⟨_, rfl⟩
            rw [hQ] at HF ⊢
            obtain ⟨m, hm⟩ : ∃ m, (35 :: t).length = m := ⟨_, rfl⟩
            rw [hm] at hsl CN2 hpos
            clear CN k1 k2 hQ hBd hBn ha had hn hd h3 hst hdw hm h2
            go_enter Tryd.func36, Tryd.ntmps36
            go_wp2_with (first | (go_at_call 42; refine C2.out.mono ?_; rintro e wd ⟨rfl, hwd⟩; obtain rfl := hwd.symm) | (go_at_call 43; refine CN2.out.mono ?_; rintro e wd ⟨rfl, hwd⟩; obtain rfl := hwd.symm) | go_in)
            exact HF.out _ HBW.out
          · rw [k1] at CN
            have CN2 : Hid (Calls Tryd.prog 43 #[.slice (some ⟨g, o, none⟩) (35 :: t).length cp, .func (.func 73) #[] #[.pointer (some ⟨w.heap.size, 0, none⟩)]] (w.alloc (.cells #[.int .i32 10] 21)) fun e w' => e = .returned (.int .i64 (j : Int)) ∧ w' = w.alloc (.cells #[.int .i32 10] 21)) := CN.out
            have hjne : ¬ (j : Int) = -1 := by omega
            have hBj := hBn.drop j (by omega)
            have hsj := bslice (w.alloc (.cells #[.int .i32 10] 21)) (some ⟨g, o, none⟩) (35 :: t).length cp j (by omega)
            have hlj : ((35 :: t).drop j).length = (35 :: t).length - j := List.length_drop ..
            rw [← k3, hdw] at hBj hlj
            rw [← hlj] at hsj
            have hdl := drop_le notNl t
            have hasc : ∀ x ∈ t.dropWhile notNl, x.toNat < 128 := fun x hx => had x (List.mem_cons_of_mem _ (dw_mem hx))
            rw [List.length_cons] at hld
            have IH := Lib.hid (gss_any n (t.dropWhile notNl) _ _ _ (by omega) hBj hasc (by omega))
            have HF : Hid (∀ a c W, Bz W a c ((startS (t.dropWhile notNl)).getD []) → (startS (t.dropWhile notNl) = none → a = none ∧ c = 0) → Below (w.alloc (.cells #[.int .i32 10] 21)).heap.size (w.alloc (.cells #[.int .i32 10] 21)) W → StP l w (.returned (.slice a ((startS (t.dropWhile notNl)).getD []).length c)) W) := by
              show ∀ _ _ _, _ → _ → _ → _
              intro a c W h1 h2 h3
              unfold StP
              rw [hst]
              exact ⟨⟨a, c, rfl, h1, h2⟩, HBW.out.trans (h3.mono (by simp))⟩
            obtain ⟨Q, hQ⟩ : ∃ Q, StP l w = Q := ⟨_, rfl⟩
            rw [hQ] at HF
            rw [hQ]
            unfold StP at IH
            generalize startS (t.dropWhile notNl) = sr at *
            have hjl := k2
            obtain ⟨m, hm⟩ : ∃ m, (35 :: t).length = m := ⟨_, rfl⟩
            rw [hm] at hsl CN2 hpos hsj hjl
            obtain ⟨m2, hm2⟩ : ∃ m, (t.dropWhile notNl).length = m := ⟨_, rfl⟩
            rw [hm2] at hsj IH
            generalize movA (some ⟨g, o, none⟩) cp j = am at *
            clear CN k1 k2 k3 hQ hBd hBn hBj ha had hn hd h3 hst hdw hm hm2 h2 hasc hlj hdl hld
            go_enter Tryd.func36, Tryd.ntmps36
            go_wp2_with (first | (go_at_call 42; refine C2.out.mono ?_; rintro e wd ⟨rfl, hwd⟩; obtain rfl := hwd.symm) | (go_at_call 43; refine CN2.out.mono ?_; rintro e wd ⟨rfl, hwd⟩; obtain rfl := hwd.symm) | (go_at_call 36; refine IH.out.mono ?_; rintro e wd ⟨⟨a3, c3, rfl, hbz3, hnn3⟩, hb3⟩) | (go_at_call 44; go_in))
            exact HF.out _ _ _ hbz3 hnn3 hb3
        · have hst : startS l = some (c :: t) := startS_some h3 h35
          have hcn : ¬ (c.toNat : Int) = 35 := fun e => h35 (UInt8.toNat_inj.1 (by show c.toNat = 35; omega))
          have HF : Hid (StP l w (.returned (.slice (some ⟨g, o, none⟩) (c :: t).length cp)) w) := by
            show StP _ _ _ _
            unfold StP
            rw [hst]
            exact ⟨⟨_, _, rfl, hBd, fun h => by cases h⟩, Below.refl _ _⟩
          obtain ⟨Q, hQ⟩ : ∃ Q, StP l w = Q := ⟨_, rfl⟩
          rw [hQ] at HF ⊢
          obtain ⟨m, hm⟩ : ∃ m, (c :: t).length = m := ⟨_, rfl⟩
          rw [hm] at hsl HF hpos
          obtain ⟨y, hy⟩ : ∃ y, c.toNat = y := ⟨_, rfl⟩
          rw [hy] at hc0 hcn hc128
          clear hQ hBd ha had hn hd h3 hst hm h2 hld hy h35
          go_enter Tryd.func36, Tryd.ntmps36
          go_wp2_with (go_at_call 42; refine C2.out.mono ?_; rintro e wd ⟨rfl, hwd⟩; obtain rfl := hwd.symm)
          exact HF.out
end Go.Proofs.YtdfhidnhkeapbaaDoor
