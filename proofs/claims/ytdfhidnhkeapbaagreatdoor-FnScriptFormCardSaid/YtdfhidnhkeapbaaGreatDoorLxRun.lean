/- (*lexer).run and lex: a text's items, as the states tell them one behind the other. Condition: the text's length. -/
import Derived.Test.YtdfhidnhkeapbaaGreatDoorLxS1
import Derived.Test.YtdfhidnhkeapbaaGreatDoorLxS2
import Derived.Test.YtdfhidnhkeapbaaGreatDoorLxS3
import Derived.Test.YtdfhidnhkeapbaaGreatDoorLxS4
import Derived.Laws.MakeOwn
namespace Go.Proofs.YtdfhidnhkeapbaaGreatDoor
open Go.RowKit U8
open Go.Lib hiding intOf

theorem rns_leL' : ∀ (n : Nat) (s : List UInt8), s.length ≤ n → (rns s).length ≤ s.length
  | n, [], _ => by rw [rns_nil]; simp
  | 0, b :: s, h => by simp at h
  | n + 1, b :: s, h => by
    obtain ⟨a, rest, x, e, ha, hd, _, _⟩ := first_part (b :: s) (by simp)
    have hl : 0 < a.length := List.length_pos_iff.2 ha
    have hlen := congrArg List.length e
    rw [List.length_append] at hlen
    rw [e, rns_cons a rest x ha hd, List.length_cons, List.length_append]
    have := rns_leL' n rest (by omega)
    omega
theorem rns_leL (s : List UInt8) : (rns s).length ≤ s.length := rns_leL' _ s (Nat.le_refl _)
theorem stV_LSt (nx : Option Nat) : LSt (stV nx) := by
  match nx with
  | none => exact .inl rfl
  | some 0 => exact .inr ⟨_, rfl⟩
  | some 1 => exact .inr ⟨_, rfl⟩
  | some 2 => exact .inr ⟨_, rfl⟩
  | some 3 => exact .inr ⟨_, rfl⟩
  | some (n + 4) => exact .inr ⟨_, rfl⟩
theorem neq_fn (f : Nat) (w : World) : (binOp .neq 130 (.func (.func f) #[] #[]) .nilFunc).run Tryz.prog w = .ok (.bool true) w := by kernel_rfl
theorem neq_fn0 (w : World) : (binOp .neq 130 .nilFunc .nilFunc).run Tryz.prog w = .ok (.bool false) w := by kernel_rfl
def tailL (gk : Nat) (rest : List UInt8) : Option Nat → List It
  | none => []
  | some q => lexM gk q (rns rest)
theorem state_step (w0 : World) (b : Nat) (s rest : List UInt8) (wd : Nat) (its : List LI) (w : World) (q : Nat) (h : Lx w0 b s rest wd [] its w) (hT : Tabs w0) (hl : its.length ≤ 900000) :
    ∃ f, (f = 93 ∨ f = 120 ∨ f = 123 ∨ f = 141 ∨ f = 151) ∧ stV (some q) = .func (.func f) #[] #[] ∧ Calls Tryz.prog f #[.pointer (some ⟨b, 0, none⟩)] w (StP w0 b s its q (rns rest)) := by
  have hz : (rns rest).length ≤ 1000000 := by
    have h1 := rns_leL rest
    have h2 := h.len
    omega
  match q with
  | 0 => exact ⟨_, .inl rfl, rfl, state0_any w0 b s rest wd its w h hT (by omega)⟩
  | 1 => exact ⟨_, .inr (.inl rfl), rfl, state1_any w0 b s rest wd its w h hT (by omega) hz⟩
  | 2 => exact ⟨_, .inr (.inr (.inl rfl)), rfl, state2_any w0 b s rest wd its w h hT (by omega) hz⟩
  | 3 => exact ⟨_, .inr (.inr (.inr (.inl rfl))), rfl, state3_any w0 b s rest wd its w h hT⟩
  | n + 4 =>
    refine ⟨_, .inr (.inr (.inr (.inr rfl))), rfl, (state4_any w0 b s rest wd its w h hT (by omega) hz).mono ?_⟩
    rintro e w' ⟨nx, new, rest2, wd2, acc2, its2, h1, h2, h3, h4, h5, h6⟩
    refine ⟨nx, new, rest2, wd2, acc2, its2, h1, h2, h3, h4, fun m => ?_, fun q2 hq => ⟨?_, (h6 q2 hq).2⟩⟩
    · rw [← h5 m]; rfl
    · have := (h6 q2 hq).1
      unfold mu at this ⊢
      simp at this ⊢
      omega
set_option maxHeartbeats 3200000 in
set_option maxRecDepth 100000 in
theorem run_any (w0 : World) (b : Nat) (s : List UInt8) (w : World) (h : Lx w0 b s s 0 [] [] w) (hT : Tabs w0) (hs : s.length ≤ 50000) :
    Calls Tryz.prog 82 #[.pointer (some ⟨b, 0, none⟩)] w fun e w' => e = .returned (.tuple #[]) ∧ ∃ rest wd acc its, Lx w0 b s rest wd acc its w' ∧ its.map liOf = lexT s ∧ its.length ≤ 600000 := by
  have hm : mu 0 (rns s) ≤ 250004 := by
    have := rns_leL s
    unfold mu; simp; omega
  obtain ⟨M, hM⟩ : ∃ M, mu 0 (rns s) = M := ⟨_, rfl⟩
  have HTOT : Hid (lexT s = lexM (M + 1) 0 (rns s)) := by show _ = _; unfold lexT; rw [hM]
  have HT := Lib.hid hT
  have C0 := Lib.hid (state0_any w0 b s s 0 [] w h hT (by simp))
  rw [hM] at hm
  have HMU : Hid (mu 0 (rns s) = M) := hM
  obtain ⟨T, hTT⟩ : ∃ T, lexT s = T := ⟨_, rfl⟩
  rw [hTT] at HTOT ⊢
  clear h hT hM hTT
  go_enter Tryz.func82, Tryz.ntmps82
  go_wp2_with fail
  refine C0.out.mono ?_
  rintro e w1 ⟨nx, new, rest2, wd2, acc2, its2, rfl, h2, hl2, hi2, hn2, hmu2⟩
  obtain ⟨_, st, _, _, _, _, _, _, _, c1, _, _, _, _, _, f, _, _⟩ := h2.vals
  have f1 := f 1
  have HST : Hid (Lx w0 b s rest2 wd2 acc2 its2 (w1.setCell ⟨b, 1, none⟩ (stV nx))) := h2.set1 (stV nx) (stV_LSt nx)
  have HC1 : Hid ((w1.setCell ⟨b, 1, none⟩ (stV nx)).cell? ⟨b, 1, none⟩ = some (stV nx)) := World.cell?_setCell_same _ _ _ c1
  have HI2 : Hid (its2.map liOf = new) := by show _ = _; rw [hi2]; rfl
  have HN2 : Hid (lexM (M + 1) 0 (rns s) = new ++ tailL M rest2 nx) := by
    show _ = _
    rw [hn2 M]; cases nx <;> rfl
  have HMU2 := Lib.hid hmu2
  simp only [List.length_nil] at hl2
  clear h2 hi2 hn2 hmu2 f
  have hst := stV_LSt nx
  obtain ⟨V, hV⟩ : ∃ V, stV nx = V := ⟨_, rfl⟩
  rw [hV] at hst HST HC1 ⊢
  have HV := Lib.hid hV
  clear hV
  rcases hst with rfl | ⟨f9, rfl⟩
  all_goals
   go_wp2
   generalize w1.setCell ⟨b, 1, none⟩ _ = w2 at *
   go_loopg [] M (fun gk wr => ∃ (nx : Option Nat) (rest : List UInt8) (wd : Nat) (acc : List Nat) (its : List LI), Hid (wr.cell? ⟨b, 1, none⟩ = some (stV nx)) ∧ Hid (Lx w0 b s rest wd acc its wr) ∧ Hid (its.map liOf ++ tailL gk rest nx = T) ∧ Hid (∀ q, nx = some q → mu q (rns rest) < gk ∧ acc = []) ∧ its.length + 2 * gk ≤ 600000)
   case atStart =>
    refine ⟨nx, rest2, wd2, acc2, its2, ?_, HST.out, ?_, ?_, ?_⟩
    · show _ = _
      rw [HV.out]; exact HC1.out
    · show _ = _
      rw [HI2.out, HTOT.out, HN2.out]
    · show ∀ _, _
      intro q hq
      have := HMU2.out q hq
      rw [HMU.out] at this
      exact this
    · omega
   case round =>
     obtain ⟨nx, rest, wd, acc, its, HC, HL, HI, HM, hlen⟩ := hrel
     cases nx with
     | none =>
       have c1 : wr.cell? ⟨b, 1, none⟩ = some .nilFunc := HC.out
       have HF : Hid (its.map liOf = T) := by show _ = _; rw [← HI.out]; simp [tailL]
       have hq0 := neq_fn0 wr
       go_wp2
       go_end0
       exact ⟨rfl, rest, wd, acc, its, HL.out, HF.out, by omega⟩
     | some q =>
       obtain ⟨hmq, hacc⟩ := HM.out q rfl
       subst hacc
       obtain ⟨gk, rfl⟩ : ∃ m, gk = m + 1 := ⟨gk - 1, by omega⟩
       obtain ⟨f, hf5, hf, hc⟩ := state_step w0 b s rest wd its wr q HL.out HT.out (by omega)
       have c1 : wr.cell? ⟨b, 1, none⟩ = some (.func (.func f) #[] #[]) := by rw [← hf]; exact HC.out
       have HCL := Lib.hid hc
       have hq1 := neq_fn f wr
       have HMQ := Lib.hid hmq
       clear hf hc hmq
       rcases hf5 with rfl | rfl | rfl | rfl | rfl
       all_goals
        go_wp2_with fail
        refine HCL.out.mono ?_
        rintro e w3 ⟨nx3, new3, rest3, wd3, acc3, its3, rfl, h3, hl3, hi3, hn3, hmu3⟩
        obtain ⟨_, st3, _, _, _, _, _, _, _, d1, _, _, _, _, _, f3, _, _⟩ := h3.vals
        have f31 := f3 1
        have HS3 : Hid (Lx w0 b s rest3 wd3 acc3 its3 (w3.setCell ⟨b, 1, none⟩ (stV nx3))) := h3.set1 (stV nx3) (stV_LSt nx3)
        have HC3 : Hid ((w3.setCell ⟨b, 1, none⟩ (stV nx3)).cell? ⟨b, 1, none⟩ = some (stV nx3)) := World.cell?_setCell_same _ _ _ d1
        have HI3 : Hid (its3.map liOf ++ tailL gk rest3 nx3 = T) := by
          show _ = _
          have e3 : new3 ++ tailL gk rest3 nx3 = lexM (gk + 1) q (rns rest) := by rw [hn3 gk]; cases nx3 <;> rfl
          rw [hi3, List.append_assoc, e3]; exact HI.out
        have HM3 : Hid (∀ q, nx3 = some q → mu q (rns rest3) < gk ∧ acc3 = []) := by
          show ∀ _, _
          intro q3 hq3
          have := hmu3 q3 hq3
          have h5 := HMQ.out
          exact ⟨by omega, this.2⟩
        clear h3 hi3 hn3 hmu3 f3 c1 HC HL HI HM HCL HMQ
        have hst3 := stV_LSt nx3
        obtain ⟨V3, hV3⟩ : ∃ V, stV nx3 = V := ⟨_, rfl⟩
        rw [hV3] at hst3 HS3 HC3 ⊢
        have HV3 := Lib.hid hV3
        clear hV3
        rcases hst3 with rfl | ⟨f9, rfl⟩
        all_goals
         go_wp2
         go_roundg gk
         case rel => exact ⟨nx3, rest3, wd3, acc3, its3, by show _ = _; rw [HV3.out]; exact HC3.out, HS3.out, HI3.out, HM3.out, by omega⟩
         case measure => omega
/-- What lex hands on. -/
def LexP (w : World) (s : List UInt8) (e : Ending) (w' : World) : Prop :=
  ∃ b rest wd acc its, e = .returned (.pointer (some ⟨b, 0, none⟩)) ∧ Lx w b s rest wd acc its w' ∧ its.map liOf = lexT s ∧ its.length ≤ 600000
set_option maxHeartbeats 1600000 in
set_option maxRecDepth 100000 in
theorem lex_any (s : List UInt8) (w : World) (hT : Tabs w) (hs : s.length ≤ 50000) :
    Calls Tryz.prog 71 #[.string (txt s)] w (LexP w s) := by
  obtain ⟨i0, hi, hz0, hz1, hz2⟩ := info_parts Tryz.info21
  obtain ⟨w2, hmk, hown0, hgr⟩ := run_make_own (P := Tryz.prog) w w.heap.size 114 21 i0 (.int .i32 0) 1 Tryz.underlying114 hi hz0 hz1 .i64 .i64 32 (by rw [hz2]; decide) (by unfold maxLen; omega) (Nat.le_refl _)
  have hB2 : Below w.heap.size w w2 := (Below.refl _ w).grown hgr (Nat.le_refl _) (fun k hk => by cases hk)
  have hmk2 : (Instr.makeSlice 114 (.int .i64 0) (.int .i64 32)).run Tryz.prog w = .ok (.slice (some ⟨w.heap.size, 0, none⟩) 0 32) w2 := hmk
  have HL : Hid (Lx w w2.heap.size s s 0 [] [] (w2.alloc (.cells #[.string (txt s), .nilFunc, .int .i64 0, .int .i64 0, .int .i64 0, .int .i64 0, .slice (some ⟨w.heap.size, 0, none⟩) 0 32, .slice none 0 0] 133))) :=
    ⟨hB2.size, hB2.alloc hB2.size _, by omega, [], .nilFunc, 0, 0, .slice (some ⟨w.heap.size, 0, none⟩) 0 32, .slice none 0 0, rfl, .inl rfl, heap_alloc_new w2 _, hown0.alloc _, ⟨rfl, .inl ⟨rfl, rfl⟩⟩⟩
  have HT := Lib.hid hT
  have CR := Lib.hid (run_any w w2.heap.size s _ HL.out hT hs)
  clear hmk hown0 hgr hB2 hT HL
  go_enter Tryz.func71, Tryz.ntmps71
  go_wp2_with fail
  refine CR.out.mono ?_
  rintro e w3 ⟨rfl, rest, wd, acc, its, h1, h2, h3⟩
  have H1 := Lib.hid h1
  have H2 := Lib.hid h2
  clear h1 h2
  go_wp2
  go_ret
  exact ⟨_, rest, wd, acc, its, rfl, H1.out, H2.out, h3⟩
end Go.Proofs.YtdfhidnhkeapbaaGreatDoor
