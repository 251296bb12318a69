/- godotenv.doubleQuoteEscape at any text. Condition: the size. -/
import Derived.Test.YtmmnljepbnifnaaDoorEIdx
namespace Go.Proofs.YtmmnljepbnifnaaDoor
open Go.RowKit U8
open Go.Lib hiding intOf

theorem esc_sc : ∀ c ∈ escSet, Sc c ∧ c < 128 := by unfold Sc; decide
theorem esc_lit : (⟨#[92, 10, 13, 34, 33, 36, 96]⟩ : ByteArray) = txt (enc escSet) := by decide
theorem enc_small (c : Nat) (h : c < 128) : Utf8.encode (c : Int) = txt [c.toUInt8] := by
  rw [encode_enc1 c (by unfold Sc; omega), enc1_a h]
  rfl
theorem esc_pre (s : List UInt8) : ∀ pre : List Nat, (pre.foldl esc1 s).length ≤ 2 ^ pre.length * s.length := by
  intro pre
  induction pre generalizing s with
  | nil => simp
  | cons c l ih =>
    have h1 := ih (esc1 s c)
    have h2 := Nat.mul_le_mul_left (2 ^ l.length) (esc1_len s c)
    rw [List.foldl_cons, List.length_cons, Nat.pow_succ]
    have e : 2 ^ l.length * (2 * s.length) = 2 ^ l.length * 2 * s.length := by rw [Nat.mul_assoc]
    omega
set_option maxHeartbeats 3200000 in
set_option maxRecDepth 100000 in
theorem esc_any (s : List UInt8) (w : World) (hs : s.length ≤ 268435456000) :
    Calls Tryd.prog 34 #[.string (txt s)] w fun e w' => e = .returned (.string (txt (escD s))) ∧ Below w.heap.size w w' := by
  have hb0 : w.heap.size < (w.alloc (.stringIter (txt (enc escSet)) 0)).heap.size := by show _ < (Array.push _ _).size; rw [Array.size_push]; exact Nat.lt_succ_self _
  go_enter Tryd.func34, Tryd.ntmps34
  go_wp2
  go_loopg [0, 4, 5] 8 (fun gk v0 v4 v5 wr => ∃ (pre post : List Nat), v0 = .string (txt (pre.foldl esc1 s)) ∧ Hid (escSet = pre ++ post) ∧ post.length < gk ∧ wr.heap[w.heap.size]? = some (.stringIter (txt (enc escSet)) (enc pre).length) ∧ Hid (Below w.heap.size w wr))
  case atStart => exact ⟨[], escSet, rfl, rfl, by decide, by rw [esc_lit]; exact World.iter_heap _ _ _, (Below.refl _ _).alloc (Nat.le_refl _) _⟩
  case round =>
    obtain ⟨pre, post, rfl, HE, hg, hi, HB⟩ := hrel
    have hbs := HB.out.size
    have hlt : w.heap.size < wr.heap.size := (Array.getElem?_eq_some_iff.1 hi).1
    have hpl : pre.length + post.length = 7 := by rw [← List.length_append, ← HE.out]; rfl
    have hcl : (pre.foldl esc1 s).length ≤ 34359738368000 := by
      have h1 := esc_pre s pre
      have h2 : 2 ^ pre.length ≤ 2 ^ 7 := Nat.pow_le_pow_right (by decide) (by omega)
      have h3 := Nat.mul_le_mul_right s.length h2
      omega
    obtain ⟨cur, hcur⟩ : ∃ cur, pre.foldl esc1 s = cur := ⟨_, rfl⟩
    rw [hcur] at hcl ⊢
    have HC := Lib.hid hcur
    clear hcur
    match post, HE, hg, hpl with
    | [], HE, hg, hpl =>
      have hp : ¬ (enc pre).length < (txt (enc escSet)).size := by rw [HE.out, List.append_nil, txt_size]; omega
      have hny := fun ty => @run_next_end_at Tryd.prog wr w.heap.size _ _ ty hi hp
      have HF : Hid (cur = escD s) := by show _ = _; rw [← HC.out]; unfold escD; rw [HE.out, List.append_nil]
      clear hp hi
      go_wp2
      go_ret
      exact ⟨by rw [HF.out]; rfl, HB.out⟩
    | c :: post, HE, hg, hpl =>
      obtain ⟨gk, rfl⟩ : ∃ m, gk = m + 1 := ⟨gk - 1, by omega⟩
      rw [List.length_cons] at hg hpl
      obtain ⟨hsc, hc8⟩ := esc_sc c (by rw [HE.out]; simp)
      have hci := hsc.i32
      have henc : enc escSet = enc pre ++ (enc1 c ++ enc post) := by rw [HE.out, enc_append, enc_cons]
      have hny : ∀ ty, (Instr.next (.pointer (some ⟨w.heap.size, 0, none⟩)) true ty).run Tryd.prog wr = .ok (.tuple #[.bool true, .int .i64 (enc pre).length, .int .i32 c]) (wr.iterAt w.heap.size (txt (enc escSet)) (enc pre ++ enc1 c).length) := fun ty => by
        have := next_part wr w.heap.size (enc pre) (enc1 c) (enc post) c (henc ▸ hi) (enc1_ne c) (decode_enc c post hsc) ty
        rw [← henc] at this
        exact this
      have HI2 := Lib.hid (iterAt_heap wr w.heap.size (txt (enc escSet)) _ (enc pre ++ enc1 c).length hi)
      have HB3 := Lib.hid (below_iterAt HB.out (Nat.le_refl _) (txt (enc escSet)) (enc pre ++ enc1 c).length)
      have HP : Hid ((enc pre ++ enc1 c).length = (enc (pre ++ [c])).length) := by show _ = _; rw [enc_append, enc_one]
      have HE2 : Hid (escSet = (pre ++ [c]) ++ post) := by show _ = _; rw [HE.out]; simp
      have HES : Hid (esc1 cur c = (pre ++ [c]).foldl esc1 s) := by show _ = _; rw [List.foldl_append, HC.out]; rfl
      generalize wr.iterAt w.heap.size (txt (enc escSet)) (enc pre ++ enc1 c).length = wj at *
      have hes := enc_small c hc8
      have hez : (Utf8.encode (c : Int)).size = 1 := by rw [hes, txt_size]; rfl
      have hbj := HB3.out.size
      by_cases h10 : c = 10
      · subst h10
        have cR := rep_any cur [(10 : Nat).toUInt8] (escNew 10) wj (by simp) (by simp) (by decide) hcl
        have e1 : txt (escNew 10) = ⟨#[92, 110]⟩ := rfl
        have e4 : txt [(10 : Nat).toUInt8] = ⟨#[10]⟩ := rfl
        have CR : Hid (Calls Tryd.prog 44 #[.string (txt cur), .string (Utf8.encode 10), .string ⟨#[92, 110]⟩] wj fun e w' => e = .returned (.string (txt (esc1 cur 10))) ∧ Below wj.heap.size wj w') := by
          show Calls _ _ _ _ _
          rw [show Utf8.encode 10 = txt [(10 : Nat).toUInt8] from hes, ← e1]
          exact cR
        clear cR e1 e4 hes hi
        go_wp2_with fail
        refine CR.out.mono ?_
        rintro e w3 ⟨rfl, hb3⟩
        have HB4 := Lib.hid (HB3.out.trans (hb3.mono hbj))
        have HI4 : Hid (w3.heap[w.heap.size]? = some (.stringIter (txt (enc escSet)) (enc (pre ++ [10])).length)) := by
          show _ = _
          rw [← HP.out]
          exact (hb3.block _ (Array.getElem?_eq_some_iff.1 HI2.out).1).trans HI2.out
        clear hb3
        go_wp2
        go_roundg gk
        case rel => exact ⟨pre ++ [10], post, congrArg (fun z => Value.string (txt z)) HES.out, HE2.out, by omega, HI4.out, HB4.out⟩
        case measure => omega
      by_cases h13 : c = 13
      · subst h13
        have cR := rep_any cur [(13 : Nat).toUInt8] (escNew 13) wj (by simp) (by simp) (by decide) hcl
        have e1 : txt (escNew 13) = ⟨#[92, 114]⟩ := rfl
        have e4 : txt [(13 : Nat).toUInt8] = ⟨#[13]⟩ := rfl
        have CR : Hid (Calls Tryd.prog 44 #[.string (txt cur), .string (Utf8.encode 13), .string ⟨#[92, 114]⟩] wj fun e w' => e = .returned (.string (txt (esc1 cur 13))) ∧ Below wj.heap.size wj w') := by
          show Calls _ _ _ _ _
          rw [show Utf8.encode 13 = txt [(13 : Nat).toUInt8] from hes, ← e1]
          exact cR
        clear cR e1 e4 hes hi h10
        go_wp2_with fail
        refine CR.out.mono ?_
        rintro e w3 ⟨rfl, hb3⟩
        have HB4 := Lib.hid (HB3.out.trans (hb3.mono hbj))
        have HI4 : Hid (w3.heap[w.heap.size]? = some (.stringIter (txt (enc escSet)) (enc (pre ++ [13])).length)) := by
          show _ = _
          rw [← HP.out]
          exact (hb3.block _ (Array.getElem?_eq_some_iff.1 HI2.out).1).trans HI2.out
        clear hb3
        go_wp2
        go_roundg gk
        case rel => exact ⟨pre ++ [13], post, congrArg (fun z => Value.string (txt z)) HES.out, HE2.out, by omega, HI4.out, HB4.out⟩
        case measure => omega
      · have hen : escNew c = [92, c.toUInt8] := by unfold escNew; rw [if_neg h10, if_neg h13]
        have cR := rep_any cur [c.toUInt8] (escNew c) wj (by simp) (by simp) (by rw [hen]; simp) hcl
        have CR : Hid (Calls Tryd.prog 44 #[.string (txt cur), .string (Utf8.encode (c : Int)), .string (⟨#[92]⟩ ++ Utf8.encode (c : Int))] wj fun e w' => e = .returned (.string (txt (esc1 cur c))) ∧ Below wj.heap.size wj w') := by
          have e1 : (⟨#[92]⟩ : ByteArray) ++ txt [c.toUInt8] = txt (escNew c) := by rw [hen, show (⟨#[92]⟩ : ByteArray) = txt [92] from rfl, txt_append]; rfl
          show Calls _ _ _ _ _
          rw [hes, e1]
          exact cR
        have e2 : ((c : Int) == 10) = false := beq_eq_false_iff_ne.2 (by omega)
        have e3 : ((c : Int) == 13) = false := beq_eq_false_iff_ne.2 (by omega)
        clear cR hes hi h10 h13 hen
        go_wp2_with fail
        refine CR.out.mono ?_
        rintro e w3 ⟨rfl, hb3⟩
        have HB4 := Lib.hid (HB3.out.trans (hb3.mono hbj))
        have HI4 : Hid (w3.heap[w.heap.size]? = some (.stringIter (txt (enc escSet)) (enc (pre ++ [c])).length)) := by
          show _ = _
          rw [← HP.out]
          exact (hb3.block _ (Array.getElem?_eq_some_iff.1 HI2.out).1).trans HI2.out
        clear hb3
        go_wp2
        go_roundg gk
        case rel => exact ⟨pre ++ [c], post, congrArg (fun z => Value.string (txt z)) HES.out, HE2.out, by omega, HI4.out, HB4.out⟩
        case measure => omega
end Go.Proofs.YtmmnljepbnifnaaDoor
