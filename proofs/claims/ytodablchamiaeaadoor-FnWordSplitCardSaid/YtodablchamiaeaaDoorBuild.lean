/- Contracts of strings.Builder at a builder of the call's own, in the words of texts; writePadString. -/
import Derived.Test.YtodablchamiaeaaDoorSlice
import Derived.Test.YtodablchamiaeaaDoorCyc
import Derived.Test.YtodablchamiaeaaDoorMem
namespace Go.Proofs.YtodablchamiaeaaDoor
open Go.RowKit U8
open Go.Lib hiding intOf

theorem chain {w a b : World} (h : Below w.heap.size w a) (k : Below a.heap.size a b) : Below w.heap.size w b := h.trans (k.mono h.size)

/-- Block b is a builder of the call's own that holds these bytes. -/
def Bld (B b : Nat) (l : List UInt8) (w : World) : Prop := IsBuilderF 66 5 B b (byteCells l) w

theorem atF_below {B b : Nat} {p : Value} {bs : List Value} {w w' : World} (h : BuilderAtF 66 5 B b p bs w) (hb : Below w.heap.size w w') : BuilderAtF 66 5 B b p bs w' := by
  obtain ⟨h1, v, hbk, hown, hne⟩ := h
  have hlt : b < w.heap.size := (Array.getElem?_eq_some_iff.1 hbk).1
  refine ⟨h1, v, (hb.block b hlt).trans hbk, ⟨hown.1, ?_⟩, hne⟩
  rcases hown.2 with h2 | ⟨g, cap, cur, fz, hv, hg, hh, r⟩
  · exact .inl h2
  · exact .inr ⟨g, cap, cur, fz, hv, hg, (hb.block g (Array.getElem?_eq_some_iff.1 hh).1).trans hh, r⟩
theorem Bld.below {B b : Nat} {l : List UInt8} {w w' : World} (h : Bld B b l w) (hb : Below w.heap.size w w') : Bld B b l w' :=
  h.elim (fun x => .inl (atF_below x hb)) (fun x => .inr (atF_below x hb))
theorem Bld.lt {B b : Nat} {l : List UInt8} {w : World} (h : Bld B b l w) : B ≤ b ∧ b < w.heap.size := by
  rcases h with ⟨h1, v, hbk, _⟩ | ⟨h1, v, hbk, _⟩ <;> exact ⟨h1, (Array.getElem?_eq_some_iff.1 hbk).1⟩

theorem strCells_txt (l : List UInt8) : strCells (txt l) = byteCells l := by unfold strCells byteCells; rw [txt_list]

theorem bld_write (B b : Nat) (l m : List UInt8) (w : World) (h : Bld B b l w) (hl : l.length + m.length ≤ 140737488355328) (hB : B ≤ w.heap.size) :
    Calls Tryd.prog 74 #[.pointer (some ⟨b, 0, none⟩), .string (txt m)] w fun e w' => e = .returned (.tuple #[.int .i64 m.length, .nilIface]) ∧ Bld B b (l ++ m) w' ∧ Below B w w' ∧ OthersKept 5 (some b) w w' := by
  refine (Tryd.Builder_WriteString_k B b (byteCells l) (txt m) w h (by rw [byteCells_length, txt_size]; exact hl) hB).mono ?_
  rintro e w' ⟨rfl, h1, h2, h3⟩
  refine ⟨by rw [txt_size], ?_, h2, h3⟩
  unfold Bld
  rw [byteCells_app, ← strCells_txt m]
  exact .inr h1
theorem bld_string (B b : Nat) (l : List UInt8) (w : World) (h : Bld B b l w) (hB : B ≤ w.heap.size) :
    Calls Tryd.prog 75 #[.pointer (some ⟨b, 0, none⟩)] w fun e w' => e = .returned (.string (txt l)) ∧ Bld B b l w' ∧ Below B w w' ∧ OthersKept 5 (some b) w w' :=
  Tryd.Builder_String_any_k B b l w h hB
theorem bld_grow (B b n : Nat) (w : World) (hB : B ≤ b) (hbk : w.heap[b]? = some (.cells #[.pointer none, .slice none 0 0] 66 (0, 0))) (hBw : B ≤ w.heap.size) (hn : n ≤ 281474976710656) :
    Calls Tryd.prog 78 #[.pointer (some ⟨b, 0, none⟩), .int .i64 n] w fun e w' => e = .returned (.tuple #[]) ∧ Bld B b [] w' ∧ Below B w w' := by
  refine (Tryd.Builder_Grow_fresh B b n w hB hbk hBw hn).mono ?_
  rintro e w' ⟨rfl, h1, h2⟩
  exact ⟨rfl, IsBuilderF.of (.inr h1), h2⟩
theorem bld_rune (B b : Nat) (l : List UInt8) (r : Nat) (w : World) (h : Bld B b l w) (hr : Sc r) (hl : l.length + 4 ≤ 140737488355328) (hB : B ≤ w.heap.size) :
    Calls Tryd.prog 82 #[.pointer (some ⟨b, 0, none⟩), .int .i32 r] w fun e w' => e = .returned (.tuple #[.int .i64 (enc1 r).length, .nilIface]) ∧ Bld B b (l ++ enc1 r) w' ∧ Below B w w' ∧ OthersKept 5 (some b) w w' := by
  refine (Tryd.Builder_WriteRune_k B b (byteCells l) r hr.i32.1 hr.i32.2 w h (by rw [byteCells_length]; exact hl) hB).mono ?_
  rintro e w' ⟨rfl, h1, h2, h3⟩
  refine ⟨by rw [runeCells_length]; rfl, ?_, h2, h3⟩
  unfold Bld
  rw [byteCells_app, show byteCells (enc1 r) = runeCells r from byteCells_encodeRune r]
  exact .inr h1

set_option maxHeartbeats 1600000 in
set_option maxRecDepth 100000 in
/-- A PAD, AGAIN AND AGAIN, up to a number of characters. -/
theorem pad_any (B b : Nat) (l : List UInt8) (p : List Nat) (n : Nat) (w : World) (h : Bld B b l w) (hB : B ≤ w.heap.size) (hp : Scs p) (hp0 : 0 < p.length) (hpl : (enc p).length ≤ 10000) (hn : n ≤ 10000) (hl : l.length ≤ 1000000000) (hTB : ∀ W, Below B w W → Tabs W) :
    Calls Tryd.prog 79 #[.pointer (some ⟨b, 0, none⟩), .string (txt (enc p)), .int .i64 p.length, .int .i64 n] w fun e w' => e = .returned (.tuple #[]) ∧ Bld B b (l ++ enc (cyc p n)) w' ∧ Below B w w' := by
  have hpn := enc_length_ge p
  obtain ⟨q, hq⟩ : ∃ q, n / p.length = q := ⟨_, rfl⟩
  obtain ⟨r, hr⟩ : ∃ r, n % p.length = r := ⟨_, rfl⟩
  have hqi : (n : Int) / (p.length : Int) = (q : Int) := by rw [← hq]; rfl
  have hri : (n : Int) % (p.length : Int) = (r : Int) := by rw [← hr]; rfl
  have hqn : q ≤ n := by rw [← hq]; exact Nat.div_le_self _ _
  have hrp : r < p.length := by rw [← hr]; exact Nat.mod_lt _ hp0
  have HC := Lib.hid (cyc_split p hp0 q n hq)
  rw [hr] at HC
  have hflat : ∀ k, ((List.replicate k (enc p)).flatten).length = k * (enc p).length := fun k => by simp
  have HFl := Lib.hid hflat
  have hmul : ∀ k, k ≤ 10000 → k * (enc p).length ≤ 100000000 := fun k hk => Nat.le_trans (Nat.mul_le_mul hk hpl) (by omega)
  have HM := Lib.hid hmul
  have HTB := Lib.hid hTB
  clear hq hr hflat hmul hTB
  have hb0 : Bld B b (l ++ ([] : List UInt8)) w := by rw [List.append_nil]; exact h
  go_enter Tryd.func79, Tryd.ntmps79
  go_wp2
  go_loopg [10] (q + 1) (fun gk i wr => ∃ k : Nat, k ≤ q ∧ i = .int .i64 k ∧ q - k < gk ∧ Hid (Bld B b (l ++ (List.replicate k (enc p)).flatten) wr) ∧ Below B w wr)
  case atStart => exact ⟨0, by omega, rfl, by omega, hb0, Below.refl _ _⟩
  case round =>
    obtain ⟨k, hk, rfl, hg, hbl, hb⟩ := hrel
    clear hb0
    have hbs := hb.size
    by_cases hkq : k < q
    · obtain ⟨gk, rfl⟩ : ∃ m, gk = m + 1 := ⟨gk - 1, by omega⟩
      go_wp2_with (go_at_call 74; refine (bld_write B b _ (enc p) _ hbl.out (by rw [List.length_append, HFl.out]; have := HM.out k (by omega); omega) (by omega)).mono ?_; rintro e w1 ⟨rfl, hbl1, hb1, _⟩)
      go_roundg gk
      case rel =>
        refine ⟨k + 1, by omega, by go_num, by omega, ?_, hb.trans hb1⟩
        show Bld _ _ _ _
        rw [List.replicate_succ', List.flatten_append, ← List.append_assoc]
        simpa using hbl1
      case measure => omega
    · obtain rfl : k = q := by omega
      by_cases hr0 : r = 0
      · have hrz : ((r : Int) != 0) = false := by simp [hr0]
        go_wp2
        go_end0
        refine ⟨rfl, ?_, hb⟩
        have e := HC.out
        rw [hr0, List.take_zero, List.append_nil] at e
        rw [e, enc_flatten]
        exact hbl.out
      · have hrz : ((r : Int) != 0) = true := by simp; omega
        have hb1 : Hid (Bld B b (l ++ (List.replicate k (enc p)).flatten ++ enc (p.take 0)) wr) := by
          show Bld _ _ _ _
          rw [List.take_zero, enc_nil, List.append_nil]; exact hbl.out
        go_wp2
        rw [hri]
        clear hri
        go_loopg [11, 1] (r + 1) (fun gk i s wx => ∃ j : Nat, j ≤ r ∧ i = .int .i64 j ∧ s = .string (txt (enc (p.drop j))) ∧ r - j < gk ∧ Hid (Bld B b (l ++ (List.replicate k (enc p)).flatten ++ enc (p.take j)) wx) ∧ Below B w wx)
        case atStart => exact ⟨0, by omega, rfl, rfl, by omega, hb1, hb⟩
        case round =>
          clear hb1 hbl hb hbs
          obtain ⟨j, hj, rfl, rfl, hg, hbl, hb⟩ := hrel
          have hbs := hb.size
          by_cases hjr : j < r
          · obtain ⟨gk, rfl⟩ : ∃ m, gk = m + 1 := ⟨gk - 1, by omega⟩
            obtain ⟨c, hc, hd, hpl2⟩ := at_place p j hp (by omega)
            have htk : p.take (j + 1) = p.take j ++ [c] := by
              rw [List.take_succ_eq_append_getElem (by omega)]
              have := List.drop_eq_getElem_cons (show j < p.length by omega)
              rw [this] at hd
              rw [(List.cons.inj hd).1]
            have hTr := HTB.out _ hb
            have hps := enc_size_pos c (p.drop (j + 1))
            have hle2 := enc1_size_le c (p.drop (j + 1))
            have hlen : (l ++ (List.replicate k (enc p)).flatten ++ enc (p.take j)).length + (enc1 c).length ≤ 140737488355328 := by
              have h1 := HM.out k (by omega)
              have h2 := enc_take_le p j
              have h3 := enc1_le c
              rw [List.length_append, List.length_append, HFl.out]; omega
            have cW := Lib.hid fun W (hW : Bld B b (l ++ (List.replicate k (enc p)).flatten ++ enc (p.take j)) W) (hBW : B ≤ W.heap.size) => head_enc c (p.drop (j + 1)) ▸ bld_write B b _ (enc1 c) W hW hlen hBW
            have HT := Lib.hid htk
            have HR := Lib.hid (rest_enc c (p.drop (j + 1)))
            rw [hd]
            clear hd hpl2 htk hlen
            go_wp2_with fail
            refine (dec_any c _ _ hc hTr).mono ?_
            rintro e w1 ⟨rfl, hbd⟩
            have hs1 := hbd.size
            go_wp2_with fail
            refine (cW.out _ (Bld.below hbl.out hbd) (by omega)).mono ?_
            rintro e w2 ⟨rfl, hbl2, hb2, _⟩
            have hb3 := (hb.trans (hbd.mono (by omega))).trans hb2
            go_wp2
            go_roundg gk
            case rel =>
              refine ⟨j + 1, by omega, by go_num, by rw [HR.out], by omega, ?_, hb3⟩
              show Bld _ _ _ _
              rw [HT.out, enc_append, enc_one, ← List.append_assoc]
              exact hbl2
            case measure => omega
          · obtain rfl : j = r := by omega
            go_wp2
            go_end0
            refine ⟨rfl, ?_, hb⟩
            rw [HC.out, enc_append, enc_flatten, ← List.append_assoc]
            exact hbl.out

end Go.Proofs.YtodablchamiaeaaDoor
