/- The law FnCamelSays: the reference's ToCamel, and the law's walk. -/
import Derived.Test.YtplillcmgahapaaDoorCSpec
import Derived.Lib.BufferRead
namespace Go.Proofs.YtplillcmgahapaaDoor
open Go.RowKit U8
open Go.Lib hiding intOf

set_option maxHeartbeats 1600000 in
set_option maxRecDepth 100000 in
theorem strip_bad (l : List UInt8) (w : World) (hl : l.length ≤ 1000000) (ha : ∃ b ∈ l, 128 ≤ b.toNat) :
    Calls Tryd.prog 37 #[.string (txt l)] w fun e w' => e = .returned (.tuple #[.string ⟨#[]⟩, .int .i64 2]) ∧ w' = w := by
  have hll := txt_size l
  have HA := Lib.hid ha
  clear ha
  go_enter Tryd.func37, Tryd.ntmps37
  go_wp2
  go_loopg [7] (l.length + 1) (fun gk i wr => ∃ p rest : List UInt8, Hid (l = p ++ rest) ∧ i = .int .i64 p.length ∧ rest.length < gk ∧ Hid (∃ b ∈ rest, 128 ≤ b.toNat) ∧ Hid (wr = w))
  case atStart => exact ⟨[], l, rfl, rfl, by omega, HA.out, rfl⟩
  case round =>
    obtain ⟨p, rest, HP, rfl, hg, HE, HW⟩ := hrel
    have hpl : p.length + rest.length = l.length := by have h := congrArg List.length HP.out; rw [List.length_append] at h; omega
    cases rest with
    | nil => obtain ⟨b, hb, _⟩ := HE.out; cases hb
    | cons b rest =>
      rw [List.length_cons] at hpl hg
      have hix := run_byte l p.length b (by rw [HP.out, List.getElem?_append_right (Nat.le_refl _), Nat.sub_self]; rfl)
      have HT2 : Hid (l = (p ++ [b]) ++ rest) := by show _ = _; rw [HP.out]; simp
      have HN : Hid (b.toNat < 128 → ∃ c ∈ rest, 128 ≤ c.toNat) := fun h => by
        obtain ⟨c, hc, h2⟩ := HE.out
        rcases List.mem_cons.1 hc with rfl | hc
        · omega
        · exact ⟨c, hc, h2⟩
      obtain ⟨x, hx⟩ : ∃ x, b.toNat = x := ⟨_, rfl⟩
      rw [hx] at hix HN
      obtain ⟨gk, rfl⟩ : ∃ m, gk = m + 1 := ⟨gk - 1, by omega⟩
      clear hx
      by_cases h : x < 128
      · have hn := Lib.hid (HN.out h)
        go_wp2
        go_roundg gk
        case rel => exact ⟨p ++ [b], rest, HT2.out, by rw [List.length_append]; go_num, by omega, hn.out, HW.out⟩
        case measure => omega
      · have h2 : 128 ≤ x := by omega
        clear h
        go_wp2
        go_ret2
        exact ⟨rfl, HW.out⟩

def lowF (x : Nat) : Bool := decide (97 ≤ x ∧ x ≤ 122)
def capF (x : Nat) : Bool := decide (65 ≤ x ∧ x ≤ 90)
def numF (x : Nat) : Bool := decide (48 ≤ x ∧ x ≤ 57)
def sepF (x : Nat) : Bool := decide (x = 32 ∨ x = 95 ∨ x = 45 ∨ x = 46)
theorem slower_gen (x : Nat) (w : World) (hx : x < 256) : Calls Tryd.prog 38 #[.int .u8 x] w fun e w' => e = .returned (.bool (lowF x)) ∧ w' = w := slower_is x _ w hx rfl
theorem supper_gen (x : Nat) (w : World) (hx : x < 256) : Calls Tryd.prog 39 #[.int .u8 x] w fun e w' => e = .returned (.bool (capF x)) ∧ w' = w := supper_is x _ w hx rfl
theorem sdigit_gen (x : Nat) (w : World) (hx : x < 256) : Calls Tryd.prog 40 #[.int .u8 x] w fun e w' => e = .returned (.bool (numF x)) ∧ w' = w := sdigit_is x _ w hx rfl
theorem sparts_gen (x : Nat) (w : World) (hx : x < 256) : Calls Tryd.prog 42 #[.int .u8 x] w fun e w' => e = .returned (.bool (sepF x)) ∧ w' = w := sparts_is x _ w hx rfl

theorem own_text {W : World} {B n : Nat} {v : Value} {o : List UInt8} (h : W.ownsRowF B 5 1 v n (byteCells o)) :
    (convert 39 9 v).run Tryd.prog W = .ok (.string (txt o)) W := by
  have hn : o.length = n := by have := h.1; rw [byteCells_length] at this; omega
  rcases h.2 with ⟨rfl, h0⟩ | ⟨g, cap, cur, fz, rfl, _⟩
  · have : o = [] := List.eq_nil_of_length_eq_zero (by omega)
    subst this
    exact Go.Lib.run_convert_nil_bytes W _ _ 5 0 Tryd.underlying39 Tryd.underlying5 Tryd.underlying9
  · refine run_bytes_text o hn fun j hj => ?_
    have hk : (byteCells o)[j]? = some (.int .u8 (o[j]'(by omega)).toNat) := by rw [byteCells_get, List.getElem?_eq_getElem (by omega)]; rfl
    have := h.cells (g := g) rfl j _ hk
    have hadd : (⟨g, 0, none⟩ : Addr).add j = ⟨g, j, none⟩ := by unfold Addr.add; split <;> simp_all
    rw [hadd] at this
    rw [this, hk]

set_option maxHeartbeats 6400000 in
set_option maxRecDepth 100000 in
theorem scamel_asc (l : List UInt8) (g : Bool) (w : World) (hl : l.length ≤ 1000000) (ha : ∀ b ∈ l, b.toNat < 128) (hid : trimSpace l ≠ [73, 68]) :
    Calls Tryd.prog 16 #[.string (txt l), .bool g] w fun e w' => e = .returned (.tuple #[.string (txt (scam g none (trimSpace l))), .int .i64 1]) ∧ Below w.heap.size w w' := by
  obtain ⟨i0, hi, hz0, hz1, hz2⟩ := info_parts Tryd.info5
  have cS := Lib.hid fun W => strip_asc l W hl ha
  have hsub : ∀ b ∈ trimSpace l, b.toNat < 128 := fun b hb => ha b (trim_sub l b hb)
  have htl := trim_len l
  rw [trim_asc l ha] at htl
  obtain ⟨t, ht⟩ : ∃ t, trimSpace l = t := ⟨_, rfl⟩
  rw [ht] at cS hsub htl hid ⊢
  obtain ⟨R, hR⟩ : ∃ R, scam g none t = R := ⟨_, rfl⟩
  rw [hR]
  have HR := Lib.hid hR.symm
  have hRl : R.length ≤ t.length := by rw [← hR, scam_none]; exact cam_len _ _ _
  have HSUB := Lib.hid hsub
  have hids : ((txt t).toList == [73, 68]) = false := by rw [txt_toList]; exact beq_eq_false_iff_ne.2 hid
  have hts := txt_size t
  have hw0 : w.heap.size ≤ w.heap.size := Nat.le_refl _
  clear ht hR hsub ha hid
  go_enter Tryd.func16, Tryd.ntmps16
  go_wp2_with (go_at_call 37; refine (cS.out _).mono ?_; rintro e w1 ⟨rfl, rfl⟩)
  go_loopg [23, 7] (t.length + 1) (fun gk i v wr => ∃ (p rest o : List UInt8), Hid (t = p ++ rest) ∧ i = .int .i64 p.length ∧ rest.length < gk ∧ Hid (R = o ++ scam g p.getLast? rest) ∧ Hid (wr.ownsRowF w1.heap.size 5 1 v o.length (byteCells o)) ∧ Below w1.heap.size w1 wr)
  case atStart => exact ⟨[], t, [], rfl, rfl, by omega, HR.out, World.ownsRowF_nil _ _ _ _, Below.refl _ _⟩
  case round =>
    obtain ⟨p, rest, o, HT, rfl, hg, HO, hown, hb⟩ := hrel
    have hpl : p.length + rest.length = t.length := by have h := congrArg List.length HT.out; rw [List.length_append] at h; omega
    have hol : o.length ≤ 1000000 := by have h := congrArg List.length HO.out; rw [List.length_append] at h; omega
    have hbs := hb.size
    cases rest with
    | nil =>
      rw [List.length_nil] at hpl
      have hcv := own_text hown.out
      have e := HO.out
      rw [scam, List.append_nil] at e
      have HE := Lib.hid e
      clear e hown
      go_wp2
      go_ret2
      exact ⟨by rw [HE.out]; rfl, hb⟩
    | cons b rest =>
      rw [List.length_cons] at hpl hg
      have hix := run_byte t p.length b (by rw [HT.out, List.getElem?_append_right (Nat.le_refl _), Nat.sub_self]; rfl)
      have hb256 := b.toNat_lt
      have HT2 : Hid (t = (p ++ [b]) ++ rest) := by show _ = _; rw [HT.out]; simp
      have HO2 : Hid (R = o ++ (scamO g p.getLast? b ++ scam g (p ++ [b]).getLast? rest)) := by show _ = _; rw [HO.out, scam, List.getLast?_concat]
      obtain ⟨L, hL⟩ : ∃ L, lowF b.toNat = L := ⟨_, rfl⟩
      obtain ⟨U, hU⟩ : ∃ U, capF b.toNat = U := ⟨_, rfl⟩
      obtain ⟨D, hD⟩ : ∃ D, numF b.toNat = D := ⟨_, rfl⟩
      have HA : Hid (isAln b = (U || L || D)) := by show _ = _; rw [← hL, ← hU, ← hD]; rfl
      have cTg := Lib.hid fun W => turn_any b g W
      have cTt := Lib.hid fun W => turn_any b true W
      have cTf := Lib.hid fun W => turn_any b false W
      have hprev : p = [] ∨ ∃ (y : UInt8), p.getLast? = some y ∧ 0 < p.length ∧ ∀ W, (Instr.index 9 (.string (txt t)) (.int .i64 ((p.length : Int) - 1))).run Tryd.prog W = .ok (.int .u8 y.toNat) W := by
        rcases List.eq_nil_or_concat p with rfl | ⟨q, y, rfl⟩
        · exact .inl rfl
        · rw [List.concat_eq_append] at *
          refine .inr ⟨y, by simp, by simp, ?_⟩
          have h := run_byte t q.length y (by rw [HT.out, List.getElem?_append_left (by simp), List.getElem?_append_right (Nat.le_refl _)]; simp)
          rw [show (((q ++ [y]).length : Nat) : Int) - 1 = (q.length : Int) by simp]
          exact h
      have HPREV := Lib.hid hprev
      obtain ⟨x, hx⟩ : ∃ x, b.toNat = x := ⟨_, rfl⟩
      rw [hx] at hix hb256 hL hU hD cTg cTt cTf
      have HX := Lib.hid hx
      clear hx
      obtain ⟨gk, rfl⟩ : ∃ m, gk = m + 1 := ⟨gk - 1, by omega⟩
      clear hprev HO
      cases L
      · cases U
        · cases D
          ·
            have HD : Hid (scamO g p.getLast? b = []) := by show _ = _; simp [scamO, HA.out]
            go_wp2_with (first
              | (go_at_call 38; refine (slower_gen _ _ (by omega)).mono ?_; rintro e w5 ⟨rfl, hw5⟩; obtain rfl := hw5.symm)
              | (go_at_call 39; refine (supper_gen _ _ (by omega)).mono ?_; rintro e w5 ⟨rfl, hw5⟩; obtain rfl := hw5.symm)
              | (go_at_call 40; refine (sdigit_gen _ _ (by omega)).mono ?_; rintro e w5 ⟨rfl, hw5⟩; obtain rfl := hw5.symm))
            go_roundg gk
            case rel =>
              refine ⟨p ++ [b], rest, o, HT2.out, by rw [List.length_append]; go_num, by omega, ?_, hown, hb⟩
              show _ = _
              rw [HO2.out, HD.out]; simp
            case measure => omega
          ·
            rcases HPREV.out with hpe | ⟨y, hyl, hp0, hixy⟩
            · have hpz : ((p.length : Int) == 0) = true := by rw [hpe]; rfl
              have HD : Hid (scamO g p.getLast? b = [turn g b]) := by show _ = _; simp [scamO, HA.out, hpe]
              clear hpe
              go_wp2_with (first
                | (go_at_call 38; refine (slower_gen _ _ (by omega)).mono ?_; rintro e w5 ⟨rfl, hw5⟩; obtain rfl := hw5.symm)
                | (go_at_call 39; refine (supper_gen _ _ (by omega)).mono ?_; rintro e w5 ⟨rfl, hw5⟩; obtain rfl := hw5.symm)
                | (go_at_call 40; refine (sdigit_gen _ _ (by omega)).mono ?_; rintro e w5 ⟨rfl, hw5⟩; obtain rfl := hw5.symm)
                | (go_at_call 41; refine (cTg.out _).mono ?_; rintro e w5 ⟨rfl, hw5⟩; obtain rfl := hw5.symm)
                | (at_builtin; refine wpList_append_sep rfl _ _ 39 rfl w1.heap.size 5 i0 (.int .u8 0) 1 Tryd.underlying39 hi hz0 hz1 hz2 rfl _ _ _ rfl (hown.out.alloc _) ⟨wr.heap.size, 0, none⟩ 1 1 [.int .u8 (turn g b).toNat] rfl rfl ?c1 ?c2 ?c3 ?c4 ?c5 ?_))
              case c1 =>
                intro j u hj
                match j, hj with
                | 0, hj => simp at hj; subst hj; simp [Addr.add]
              case c2 => intro u hu; simp at hu; subst hu; rfl
              case c3 => unfold maxLen; omega
              case c4 => omega
              case c5 => simp; omega
              intro v' w2 hown' hgrow _
              go_wp2
              go_roundg gk
              case rel =>
                refine ⟨p ++ [b], rest, o ++ [turn g b], HT2.out, by rw [List.length_append]; go_num, by omega, ?_, ?_, ?_⟩
                · show _ = _
                  rw [HO2.out, HD.out]; simp
                · show World.ownsRowF _ _ _ _ _ _ _
                  rw [List.length_append, byteCells_app]
                  exact hown'
                · exact (hb.alloc hbs _).grown hgrow (by simp; omega) (fun k hk => (hown.out.lt k hk).1)
              case measure => omega
            · have hpz : ((p.length : Int) == 0) = false := beq_eq_false_iff_ne.2 (by omega)
              have hy256 := y.toNat_lt
              obtain ⟨PU, hPU⟩ : ∃ PU, capF y.toNat = PU := ⟨_, rfl⟩
              obtain ⟨PD, hPD⟩ : ∃ PD, numF y.toNat = PD := ⟨_, rfl⟩
              obtain ⟨PS, hPS⟩ : ∃ PS, sepF y.toNat = PS := ⟨_, rfl⟩
              have kU : isCap y = PU := hPU
              have kD : isNum y = PD := hPD
              have kS : isSep y = PS := hPS
              obtain ⟨z, hz⟩ : ∃ z, y.toNat = z := ⟨_, rfl⟩
              rw [hz] at hixy hy256 hPU hPD hPS
              clear hz
              cases PD
              · cases PS
                · cases PU
                  ·
                    have HD : Hid (scamO g p.getLast? b = [b]) := by show _ = _; simp [scamO, HA.out, hyl, kD, kS, kU]
                    clear hyl kD kS kU
                    go_wp2_with (first
                      | (go_at_call 38; refine (slower_gen _ _ (by omega)).mono ?_; rintro e w5 ⟨rfl, hw5⟩; obtain rfl := hw5.symm)
                      | (go_at_call 39; refine (supper_gen _ _ (by omega)).mono ?_; rintro e w5 ⟨rfl, hw5⟩; obtain rfl := hw5.symm)
                      | (go_at_call 40; refine (sdigit_gen _ _ (by omega)).mono ?_; rintro e w5 ⟨rfl, hw5⟩; obtain rfl := hw5.symm)
                      | (go_at_call 42; refine (sparts_gen _ _ (by omega)).mono ?_; rintro e w5 ⟨rfl, hw5⟩; obtain rfl := hw5.symm)
                      | (at_builtin; refine wpList_append_sep rfl _ _ 39 rfl w1.heap.size 5 i0 (.int .u8 0) 1 Tryd.underlying39 hi hz0 hz1 hz2 rfl _ _ _ rfl (hown.out.alloc _) ⟨wr.heap.size, 0, none⟩ 1 1 [.int .u8 x] rfl rfl ?c1 ?c2 ?c3 ?c4 ?c5 ?_))
                    case c1 =>
                      intro j u hj
                      match j, hj with
                      | 0, hj => simp at hj; subst hj; simp [Addr.add]
                    case c2 => intro u hu; simp at hu; subst hu; rfl
                    case c3 => unfold maxLen; omega
                    case c4 => omega
                    case c5 => simp; omega
                    intro v' w2 hown' hgrow _
                    go_wp2
                    go_roundg gk
                    case rel =>
                      refine ⟨p ++ [b], rest, o ++ [b], HT2.out, by rw [List.length_append]; go_num, by omega, ?_, ?_, ?_⟩
                      · show _ = _
                        rw [HO2.out, HD.out]; simp
                      · show World.ownsRowF _ _ _ _ _ _ _
                        rw [List.length_append, byteCells_app, show byteCells [b] = [Value.int .u8 (x : Int)] by rw [← HX.out]; rfl]
                        exact hown'
                      · exact (hb.alloc hbs _).grown hgrow (by simp; omega) (fun k hk => (hown.out.lt k hk).1)
                    case measure => omega
                  ·
                    have HD : Hid (scamO g p.getLast? b = [turn false b]) := by show _ = _; simp [scamO, HA.out, hyl, kD, kS, kU, turn]
                    clear hyl kD kS kU
                    go_wp2_with (first
                      | (go_at_call 38; refine (slower_gen _ _ (by omega)).mono ?_; rintro e w5 ⟨rfl, hw5⟩; obtain rfl := hw5.symm)
                      | (go_at_call 39; refine (supper_gen _ _ (by omega)).mono ?_; rintro e w5 ⟨rfl, hw5⟩; obtain rfl := hw5.symm)
                      | (go_at_call 40; refine (sdigit_gen _ _ (by omega)).mono ?_; rintro e w5 ⟨rfl, hw5⟩; obtain rfl := hw5.symm)
                      | (go_at_call 42; refine (sparts_gen _ _ (by omega)).mono ?_; rintro e w5 ⟨rfl, hw5⟩; obtain rfl := hw5.symm)
                      | (go_at_call 41; refine (cTf.out _).mono ?_; rintro e w5 ⟨rfl, hw5⟩; obtain rfl := hw5.symm)
                      | (at_builtin; refine wpList_append_sep rfl _ _ 39 rfl w1.heap.size 5 i0 (.int .u8 0) 1 Tryd.underlying39 hi hz0 hz1 hz2 rfl _ _ _ rfl (hown.out.alloc _) ⟨wr.heap.size, 0, none⟩ 1 1 [.int .u8 (turn false b).toNat] rfl rfl ?c1 ?c2 ?c3 ?c4 ?c5 ?_))
                    case c1 =>
                      intro j u hj
                      match j, hj with
                      | 0, hj => simp at hj; subst hj; simp [Addr.add]
                    case c2 => intro u hu; simp at hu; subst hu; rfl
                    case c3 => unfold maxLen; omega
                    case c4 => omega
                    case c5 => simp; omega
                    intro v' w2 hown' hgrow _
                    go_wp2
                    go_roundg gk
                    case rel =>
                      refine ⟨p ++ [b], rest, o ++ [turn false b], HT2.out, by rw [List.length_append]; go_num, by omega, ?_, ?_, ?_⟩
                      · show _ = _
                        rw [HO2.out, HD.out]; simp
                      · show World.ownsRowF _ _ _ _ _ _ _
                        rw [List.length_append, byteCells_app]
                        exact hown'
                      · exact (hb.alloc hbs _).grown hgrow (by simp; omega) (fun k hk => (hown.out.lt k hk).1)
                    case measure => omega
                ·
                  have HD : Hid (scamO g p.getLast? b = [turn true b]) := by show _ = _; simp [scamO, HA.out, hyl, kD, kS, turn]
                  clear hyl kD kS kU
                  go_wp2_with (first
                    | (go_at_call 38; refine (slower_gen _ _ (by omega)).mono ?_; rintro e w5 ⟨rfl, hw5⟩; obtain rfl := hw5.symm)
                    | (go_at_call 39; refine (supper_gen _ _ (by omega)).mono ?_; rintro e w5 ⟨rfl, hw5⟩; obtain rfl := hw5.symm)
                    | (go_at_call 40; refine (sdigit_gen _ _ (by omega)).mono ?_; rintro e w5 ⟨rfl, hw5⟩; obtain rfl := hw5.symm)
                    | (go_at_call 42; refine (sparts_gen _ _ (by omega)).mono ?_; rintro e w5 ⟨rfl, hw5⟩; obtain rfl := hw5.symm)
                    | (go_at_call 41; refine (cTt.out _).mono ?_; rintro e w5 ⟨rfl, hw5⟩; obtain rfl := hw5.symm)
                    | (at_builtin; refine wpList_append_sep rfl _ _ 39 rfl w1.heap.size 5 i0 (.int .u8 0) 1 Tryd.underlying39 hi hz0 hz1 hz2 rfl _ _ _ rfl (hown.out.alloc _) ⟨wr.heap.size, 0, none⟩ 1 1 [.int .u8 (turn true b).toNat] rfl rfl ?c1 ?c2 ?c3 ?c4 ?c5 ?_))
                  case c1 =>
                    intro j u hj
                    match j, hj with
                    | 0, hj => simp at hj; subst hj; simp [Addr.add]
                  case c2 => intro u hu; simp at hu; subst hu; rfl
                  case c3 => unfold maxLen; omega
                  case c4 => omega
                  case c5 => simp; omega
                  intro v' w2 hown' hgrow _
                  go_wp2
                  go_roundg gk
                  case rel =>
                    refine ⟨p ++ [b], rest, o ++ [turn true b], HT2.out, by rw [List.length_append]; go_num, by omega, ?_, ?_, ?_⟩
                    · show _ = _
                      rw [HO2.out, HD.out]; simp
                    · show World.ownsRowF _ _ _ _ _ _ _
                      rw [List.length_append, byteCells_app]
                      exact hown'
                    · exact (hb.alloc hbs _).grown hgrow (by simp; omega) (fun k hk => (hown.out.lt k hk).1)
                  case measure => omega
              ·
                have HD : Hid (scamO g p.getLast? b = [turn true b]) := by show _ = _; simp [scamO, HA.out, hyl, kD, turn]
                clear hyl kD kS kU
                go_wp2_with (first
                  | (go_at_call 38; refine (slower_gen _ _ (by omega)).mono ?_; rintro e w5 ⟨rfl, hw5⟩; obtain rfl := hw5.symm)
                  | (go_at_call 39; refine (supper_gen _ _ (by omega)).mono ?_; rintro e w5 ⟨rfl, hw5⟩; obtain rfl := hw5.symm)
                  | (go_at_call 40; refine (sdigit_gen _ _ (by omega)).mono ?_; rintro e w5 ⟨rfl, hw5⟩; obtain rfl := hw5.symm)
                  | (go_at_call 42; refine (sparts_gen _ _ (by omega)).mono ?_; rintro e w5 ⟨rfl, hw5⟩; obtain rfl := hw5.symm)
                  | (go_at_call 41; refine (cTt.out _).mono ?_; rintro e w5 ⟨rfl, hw5⟩; obtain rfl := hw5.symm)
                  | (at_builtin; refine wpList_append_sep rfl _ _ 39 rfl w1.heap.size 5 i0 (.int .u8 0) 1 Tryd.underlying39 hi hz0 hz1 hz2 rfl _ _ _ rfl (hown.out.alloc _) ⟨wr.heap.size, 0, none⟩ 1 1 [.int .u8 (turn true b).toNat] rfl rfl ?c1 ?c2 ?c3 ?c4 ?c5 ?_))
                case c1 =>
                  intro j u hj
                  match j, hj with
                  | 0, hj => simp at hj; subst hj; simp [Addr.add]
                case c2 => intro u hu; simp at hu; subst hu; rfl
                case c3 => unfold maxLen; omega
                case c4 => omega
                case c5 => simp; omega
                intro v' w2 hown' hgrow _
                go_wp2
                go_roundg gk
                case rel =>
                  refine ⟨p ++ [b], rest, o ++ [turn true b], HT2.out, by rw [List.length_append]; go_num, by omega, ?_, ?_, ?_⟩
                  · show _ = _
                    rw [HO2.out, HD.out]; simp
                  · show World.ownsRowF _ _ _ _ _ _ _
                    rw [List.length_append, byteCells_app]
                    exact hown'
                  · exact (hb.alloc hbs _).grown hgrow (by simp; omega) (fun k hk => (hown.out.lt k hk).1)
                case measure => omega
        ·
          rcases HPREV.out with hpe | ⟨y, hyl, hp0, hixy⟩
          · have hpz : ((p.length : Int) == 0) = true := by rw [hpe]; rfl
            have HD : Hid (scamO g p.getLast? b = [turn g b]) := by show _ = _; simp [scamO, HA.out, hpe]
            clear hpe
            go_wp2_with (first
              | (go_at_call 38; refine (slower_gen _ _ (by omega)).mono ?_; rintro e w5 ⟨rfl, hw5⟩; obtain rfl := hw5.symm)
              | (go_at_call 39; refine (supper_gen _ _ (by omega)).mono ?_; rintro e w5 ⟨rfl, hw5⟩; obtain rfl := hw5.symm)
              | (go_at_call 40; refine (sdigit_gen _ _ (by omega)).mono ?_; rintro e w5 ⟨rfl, hw5⟩; obtain rfl := hw5.symm)
              | (go_at_call 41; refine (cTg.out _).mono ?_; rintro e w5 ⟨rfl, hw5⟩; obtain rfl := hw5.symm)
              | (at_builtin; refine wpList_append_sep rfl _ _ 39 rfl w1.heap.size 5 i0 (.int .u8 0) 1 Tryd.underlying39 hi hz0 hz1 hz2 rfl _ _ _ rfl (hown.out.alloc _) ⟨wr.heap.size, 0, none⟩ 1 1 [.int .u8 (turn g b).toNat] rfl rfl ?c1 ?c2 ?c3 ?c4 ?c5 ?_))
            case c1 =>
              intro j u hj
              match j, hj with
              | 0, hj => simp at hj; subst hj; simp [Addr.add]
            case c2 => intro u hu; simp at hu; subst hu; rfl
            case c3 => unfold maxLen; omega
            case c4 => omega
            case c5 => simp; omega
            intro v' w2 hown' hgrow _
            go_wp2
            go_roundg gk
            case rel =>
              refine ⟨p ++ [b], rest, o ++ [turn g b], HT2.out, by rw [List.length_append]; go_num, by omega, ?_, ?_, ?_⟩
              · show _ = _
                rw [HO2.out, HD.out]; simp
              · show World.ownsRowF _ _ _ _ _ _ _
                rw [List.length_append, byteCells_app]
                exact hown'
              · exact (hb.alloc hbs _).grown hgrow (by simp; omega) (fun k hk => (hown.out.lt k hk).1)
            case measure => omega
          · have hpz : ((p.length : Int) == 0) = false := beq_eq_false_iff_ne.2 (by omega)
            have hy256 := y.toNat_lt
            obtain ⟨PU, hPU⟩ : ∃ PU, capF y.toNat = PU := ⟨_, rfl⟩
            obtain ⟨PD, hPD⟩ : ∃ PD, numF y.toNat = PD := ⟨_, rfl⟩
            obtain ⟨PS, hPS⟩ : ∃ PS, sepF y.toNat = PS := ⟨_, rfl⟩
            have kU : isCap y = PU := hPU
            have kD : isNum y = PD := hPD
            have kS : isSep y = PS := hPS
            obtain ⟨z, hz⟩ : ∃ z, y.toNat = z := ⟨_, rfl⟩
            rw [hz] at hixy hy256 hPU hPD hPS
            clear hz
            cases PD
            · cases PS
              · cases PU
                ·
                  have HD : Hid (scamO g p.getLast? b = [b]) := by show _ = _; simp [scamO, HA.out, hyl, kD, kS, kU]
                  clear hyl kD kS kU
                  go_wp2_with (first
                    | (go_at_call 38; refine (slower_gen _ _ (by omega)).mono ?_; rintro e w5 ⟨rfl, hw5⟩; obtain rfl := hw5.symm)
                    | (go_at_call 39; refine (supper_gen _ _ (by omega)).mono ?_; rintro e w5 ⟨rfl, hw5⟩; obtain rfl := hw5.symm)
                    | (go_at_call 40; refine (sdigit_gen _ _ (by omega)).mono ?_; rintro e w5 ⟨rfl, hw5⟩; obtain rfl := hw5.symm)
                    | (go_at_call 42; refine (sparts_gen _ _ (by omega)).mono ?_; rintro e w5 ⟨rfl, hw5⟩; obtain rfl := hw5.symm)
                    | (at_builtin; refine wpList_append_sep rfl _ _ 39 rfl w1.heap.size 5 i0 (.int .u8 0) 1 Tryd.underlying39 hi hz0 hz1 hz2 rfl _ _ _ rfl (hown.out.alloc _) ⟨wr.heap.size, 0, none⟩ 1 1 [.int .u8 x] rfl rfl ?c1 ?c2 ?c3 ?c4 ?c5 ?_))
                  case c1 =>
                    intro j u hj
                    match j, hj with
                    | 0, hj => simp at hj; subst hj; simp [Addr.add]
                  case c2 => intro u hu; simp at hu; subst hu; rfl
                  case c3 => unfold maxLen; omega
                  case c4 => omega
                  case c5 => simp; omega
                  intro v' w2 hown' hgrow _
                  go_wp2
                  go_roundg gk
                  case rel =>
                    refine ⟨p ++ [b], rest, o ++ [b], HT2.out, by rw [List.length_append]; go_num, by omega, ?_, ?_, ?_⟩
                    · show _ = _
                      rw [HO2.out, HD.out]; simp
                    · show World.ownsRowF _ _ _ _ _ _ _
                      rw [List.length_append, byteCells_app, show byteCells [b] = [Value.int .u8 (x : Int)] by rw [← HX.out]; rfl]
                      exact hown'
                    · exact (hb.alloc hbs _).grown hgrow (by simp; omega) (fun k hk => (hown.out.lt k hk).1)
                  case measure => omega
                ·
                  have HD : Hid (scamO g p.getLast? b = [turn false b]) := by show _ = _; simp [scamO, HA.out, hyl, kD, kS, kU, turn]
                  clear hyl kD kS kU
                  go_wp2_with (first
                    | (go_at_call 38; refine (slower_gen _ _ (by omega)).mono ?_; rintro e w5 ⟨rfl, hw5⟩; obtain rfl := hw5.symm)
                    | (go_at_call 39; refine (supper_gen _ _ (by omega)).mono ?_; rintro e w5 ⟨rfl, hw5⟩; obtain rfl := hw5.symm)
                    | (go_at_call 40; refine (sdigit_gen _ _ (by omega)).mono ?_; rintro e w5 ⟨rfl, hw5⟩; obtain rfl := hw5.symm)
                    | (go_at_call 42; refine (sparts_gen _ _ (by omega)).mono ?_; rintro e w5 ⟨rfl, hw5⟩; obtain rfl := hw5.symm)
                    | (go_at_call 41; refine (cTf.out _).mono ?_; rintro e w5 ⟨rfl, hw5⟩; obtain rfl := hw5.symm)
                    | (at_builtin; refine wpList_append_sep rfl _ _ 39 rfl w1.heap.size 5 i0 (.int .u8 0) 1 Tryd.underlying39 hi hz0 hz1 hz2 rfl _ _ _ rfl (hown.out.alloc _) ⟨wr.heap.size, 0, none⟩ 1 1 [.int .u8 (turn false b).toNat] rfl rfl ?c1 ?c2 ?c3 ?c4 ?c5 ?_))
                  case c1 =>
                    intro j u hj
                    match j, hj with
                    | 0, hj => simp at hj; subst hj; simp [Addr.add]
                  case c2 => intro u hu; simp at hu; subst hu; rfl
                  case c3 => unfold maxLen; omega
                  case c4 => omega
                  case c5 => simp; omega
                  intro v' w2 hown' hgrow _
                  go_wp2
                  go_roundg gk
                  case rel =>
                    refine ⟨p ++ [b], rest, o ++ [turn false b], HT2.out, by rw [List.length_append]; go_num, by omega, ?_, ?_, ?_⟩
                    · show _ = _
                      rw [HO2.out, HD.out]; simp
                    · show World.ownsRowF _ _ _ _ _ _ _
                      rw [List.length_append, byteCells_app]
                      exact hown'
                    · exact (hb.alloc hbs _).grown hgrow (by simp; omega) (fun k hk => (hown.out.lt k hk).1)
                  case measure => omega
              ·
                have HD : Hid (scamO g p.getLast? b = [turn true b]) := by show _ = _; simp [scamO, HA.out, hyl, kD, kS, turn]
                clear hyl kD kS kU
                go_wp2_with (first
                  | (go_at_call 38; refine (slower_gen _ _ (by omega)).mono ?_; rintro e w5 ⟨rfl, hw5⟩; obtain rfl := hw5.symm)
                  | (go_at_call 39; refine (supper_gen _ _ (by omega)).mono ?_; rintro e w5 ⟨rfl, hw5⟩; obtain rfl := hw5.symm)
                  | (go_at_call 40; refine (sdigit_gen _ _ (by omega)).mono ?_; rintro e w5 ⟨rfl, hw5⟩; obtain rfl := hw5.symm)
                  | (go_at_call 42; refine (sparts_gen _ _ (by omega)).mono ?_; rintro e w5 ⟨rfl, hw5⟩; obtain rfl := hw5.symm)
                  | (go_at_call 41; refine (cTt.out _).mono ?_; rintro e w5 ⟨rfl, hw5⟩; obtain rfl := hw5.symm)
                  | (at_builtin; refine wpList_append_sep rfl _ _ 39 rfl w1.heap.size 5 i0 (.int .u8 0) 1 Tryd.underlying39 hi hz0 hz1 hz2 rfl _ _ _ rfl (hown.out.alloc _) ⟨wr.heap.size, 0, none⟩ 1 1 [.int .u8 (turn true b).toNat] rfl rfl ?c1 ?c2 ?c3 ?c4 ?c5 ?_))
                case c1 =>
                  intro j u hj
                  match j, hj with
                  | 0, hj => simp at hj; subst hj; simp [Addr.add]
                case c2 => intro u hu; simp at hu; subst hu; rfl
                case c3 => unfold maxLen; omega
                case c4 => omega
                case c5 => simp; omega
                intro v' w2 hown' hgrow _
                go_wp2
                go_roundg gk
                case rel =>
                  refine ⟨p ++ [b], rest, o ++ [turn true b], HT2.out, by rw [List.length_append]; go_num, by omega, ?_, ?_, ?_⟩
                  · show _ = _
                    rw [HO2.out, HD.out]; simp
                  · show World.ownsRowF _ _ _ _ _ _ _
                    rw [List.length_append, byteCells_app]
                    exact hown'
                  · exact (hb.alloc hbs _).grown hgrow (by simp; omega) (fun k hk => (hown.out.lt k hk).1)
                case measure => omega
            ·
              have HD : Hid (scamO g p.getLast? b = [turn true b]) := by show _ = _; simp [scamO, HA.out, hyl, kD, turn]
              clear hyl kD kS kU
              go_wp2_with (first
                | (go_at_call 38; refine (slower_gen _ _ (by omega)).mono ?_; rintro e w5 ⟨rfl, hw5⟩; obtain rfl := hw5.symm)
                | (go_at_call 39; refine (supper_gen _ _ (by omega)).mono ?_; rintro e w5 ⟨rfl, hw5⟩; obtain rfl := hw5.symm)
                | (go_at_call 40; refine (sdigit_gen _ _ (by omega)).mono ?_; rintro e w5 ⟨rfl, hw5⟩; obtain rfl := hw5.symm)
                | (go_at_call 42; refine (sparts_gen _ _ (by omega)).mono ?_; rintro e w5 ⟨rfl, hw5⟩; obtain rfl := hw5.symm)
                | (go_at_call 41; refine (cTt.out _).mono ?_; rintro e w5 ⟨rfl, hw5⟩; obtain rfl := hw5.symm)
                | (at_builtin; refine wpList_append_sep rfl _ _ 39 rfl w1.heap.size 5 i0 (.int .u8 0) 1 Tryd.underlying39 hi hz0 hz1 hz2 rfl _ _ _ rfl (hown.out.alloc _) ⟨wr.heap.size, 0, none⟩ 1 1 [.int .u8 (turn true b).toNat] rfl rfl ?c1 ?c2 ?c3 ?c4 ?c5 ?_))
              case c1 =>
                intro j u hj
                match j, hj with
                | 0, hj => simp at hj; subst hj; simp [Addr.add]
              case c2 => intro u hu; simp at hu; subst hu; rfl
              case c3 => unfold maxLen; omega
              case c4 => omega
              case c5 => simp; omega
              intro v' w2 hown' hgrow _
              go_wp2
              go_roundg gk
              case rel =>
                refine ⟨p ++ [b], rest, o ++ [turn true b], HT2.out, by rw [List.length_append]; go_num, by omega, ?_, ?_, ?_⟩
                · show _ = _
                  rw [HO2.out, HD.out]; simp
                · show World.ownsRowF _ _ _ _ _ _ _
                  rw [List.length_append, byteCells_app]
                  exact hown'
                · exact (hb.alloc hbs _).grown hgrow (by simp; omega) (fun k hk => (hown.out.lt k hk).1)
              case measure => omega
      ·
        rcases HPREV.out with hpe | ⟨y, hyl, hp0, hixy⟩
        · have hpz : ((p.length : Int) == 0) = true := by rw [hpe]; rfl
          have HD : Hid (scamO g p.getLast? b = [turn g b]) := by show _ = _; simp [scamO, HA.out, hpe]
          clear hpe
          go_wp2_with (first
            | (go_at_call 38; refine (slower_gen _ _ (by omega)).mono ?_; rintro e w5 ⟨rfl, hw5⟩; obtain rfl := hw5.symm)
            | (go_at_call 39; refine (supper_gen _ _ (by omega)).mono ?_; rintro e w5 ⟨rfl, hw5⟩; obtain rfl := hw5.symm)
            | (go_at_call 40; refine (sdigit_gen _ _ (by omega)).mono ?_; rintro e w5 ⟨rfl, hw5⟩; obtain rfl := hw5.symm)
            | (go_at_call 41; refine (cTg.out _).mono ?_; rintro e w5 ⟨rfl, hw5⟩; obtain rfl := hw5.symm)
            | (at_builtin; refine wpList_append_sep rfl _ _ 39 rfl w1.heap.size 5 i0 (.int .u8 0) 1 Tryd.underlying39 hi hz0 hz1 hz2 rfl _ _ _ rfl (hown.out.alloc _) ⟨wr.heap.size, 0, none⟩ 1 1 [.int .u8 (turn g b).toNat] rfl rfl ?c1 ?c2 ?c3 ?c4 ?c5 ?_))
          case c1 =>
            intro j u hj
            match j, hj with
            | 0, hj => simp at hj; subst hj; simp [Addr.add]
          case c2 => intro u hu; simp at hu; subst hu; rfl
          case c3 => unfold maxLen; omega
          case c4 => omega
          case c5 => simp; omega
          intro v' w2 hown' hgrow _
          go_wp2
          go_roundg gk
          case rel =>
            refine ⟨p ++ [b], rest, o ++ [turn g b], HT2.out, by rw [List.length_append]; go_num, by omega, ?_, ?_, ?_⟩
            · show _ = _
              rw [HO2.out, HD.out]; simp
            · show World.ownsRowF _ _ _ _ _ _ _
              rw [List.length_append, byteCells_app]
              exact hown'
            · exact (hb.alloc hbs _).grown hgrow (by simp; omega) (fun k hk => (hown.out.lt k hk).1)
          case measure => omega
        · have hpz : ((p.length : Int) == 0) = false := beq_eq_false_iff_ne.2 (by omega)
          have hy256 := y.toNat_lt
          obtain ⟨PU, hPU⟩ : ∃ PU, capF y.toNat = PU := ⟨_, rfl⟩
          obtain ⟨PD, hPD⟩ : ∃ PD, numF y.toNat = PD := ⟨_, rfl⟩
          obtain ⟨PS, hPS⟩ : ∃ PS, sepF y.toNat = PS := ⟨_, rfl⟩
          have kU : isCap y = PU := hPU
          have kD : isNum y = PD := hPD
          have kS : isSep y = PS := hPS
          obtain ⟨z, hz⟩ : ∃ z, y.toNat = z := ⟨_, rfl⟩
          rw [hz] at hixy hy256 hPU hPD hPS
          clear hz
          cases PD
          · cases PS
            · cases PU
              ·
                have HD : Hid (scamO g p.getLast? b = [b]) := by show _ = _; simp [scamO, HA.out, hyl, kD, kS, kU]
                clear hyl kD kS kU
                go_wp2_with (first
                  | (go_at_call 38; refine (slower_gen _ _ (by omega)).mono ?_; rintro e w5 ⟨rfl, hw5⟩; obtain rfl := hw5.symm)
                  | (go_at_call 39; refine (supper_gen _ _ (by omega)).mono ?_; rintro e w5 ⟨rfl, hw5⟩; obtain rfl := hw5.symm)
                  | (go_at_call 40; refine (sdigit_gen _ _ (by omega)).mono ?_; rintro e w5 ⟨rfl, hw5⟩; obtain rfl := hw5.symm)
                  | (go_at_call 42; refine (sparts_gen _ _ (by omega)).mono ?_; rintro e w5 ⟨rfl, hw5⟩; obtain rfl := hw5.symm)
                  | (at_builtin; refine wpList_append_sep rfl _ _ 39 rfl w1.heap.size 5 i0 (.int .u8 0) 1 Tryd.underlying39 hi hz0 hz1 hz2 rfl _ _ _ rfl (hown.out.alloc _) ⟨wr.heap.size, 0, none⟩ 1 1 [.int .u8 x] rfl rfl ?c1 ?c2 ?c3 ?c4 ?c5 ?_))
                case c1 =>
                  intro j u hj
                  match j, hj with
                  | 0, hj => simp at hj; subst hj; simp [Addr.add]
                case c2 => intro u hu; simp at hu; subst hu; rfl
                case c3 => unfold maxLen; omega
                case c4 => omega
                case c5 => simp; omega
                intro v' w2 hown' hgrow _
                go_wp2
                go_roundg gk
                case rel =>
                  refine ⟨p ++ [b], rest, o ++ [b], HT2.out, by rw [List.length_append]; go_num, by omega, ?_, ?_, ?_⟩
                  · show _ = _
                    rw [HO2.out, HD.out]; simp
                  · show World.ownsRowF _ _ _ _ _ _ _
                    rw [List.length_append, byteCells_app, show byteCells [b] = [Value.int .u8 (x : Int)] by rw [← HX.out]; rfl]
                    exact hown'
                  · exact (hb.alloc hbs _).grown hgrow (by simp; omega) (fun k hk => (hown.out.lt k hk).1)
                case measure => omega
              ·
                have HD : Hid (scamO g p.getLast? b = [turn false b]) := by show _ = _; simp [scamO, HA.out, hyl, kD, kS, kU, turn]
                clear hyl kD kS kU
                go_wp2_with (first
                  | (go_at_call 38; refine (slower_gen _ _ (by omega)).mono ?_; rintro e w5 ⟨rfl, hw5⟩; obtain rfl := hw5.symm)
                  | (go_at_call 39; refine (supper_gen _ _ (by omega)).mono ?_; rintro e w5 ⟨rfl, hw5⟩; obtain rfl := hw5.symm)
                  | (go_at_call 40; refine (sdigit_gen _ _ (by omega)).mono ?_; rintro e w5 ⟨rfl, hw5⟩; obtain rfl := hw5.symm)
                  | (go_at_call 42; refine (sparts_gen _ _ (by omega)).mono ?_; rintro e w5 ⟨rfl, hw5⟩; obtain rfl := hw5.symm)
                  | (go_at_call 41; refine (cTf.out _).mono ?_; rintro e w5 ⟨rfl, hw5⟩; obtain rfl := hw5.symm)
                  | (at_builtin; refine wpList_append_sep rfl _ _ 39 rfl w1.heap.size 5 i0 (.int .u8 0) 1 Tryd.underlying39 hi hz0 hz1 hz2 rfl _ _ _ rfl (hown.out.alloc _) ⟨wr.heap.size, 0, none⟩ 1 1 [.int .u8 (turn false b).toNat] rfl rfl ?c1 ?c2 ?c3 ?c4 ?c5 ?_))
                case c1 =>
                  intro j u hj
                  match j, hj with
                  | 0, hj => simp at hj; subst hj; simp [Addr.add]
                case c2 => intro u hu; simp at hu; subst hu; rfl
                case c3 => unfold maxLen; omega
                case c4 => omega
                case c5 => simp; omega
                intro v' w2 hown' hgrow _
                go_wp2
                go_roundg gk
                case rel =>
                  refine ⟨p ++ [b], rest, o ++ [turn false b], HT2.out, by rw [List.length_append]; go_num, by omega, ?_, ?_, ?_⟩
                  · show _ = _
                    rw [HO2.out, HD.out]; simp
                  · show World.ownsRowF _ _ _ _ _ _ _
                    rw [List.length_append, byteCells_app]
                    exact hown'
                  · exact (hb.alloc hbs _).grown hgrow (by simp; omega) (fun k hk => (hown.out.lt k hk).1)
                case measure => omega
            ·
              have HD : Hid (scamO g p.getLast? b = [turn true b]) := by show _ = _; simp [scamO, HA.out, hyl, kD, kS, turn]
              clear hyl kD kS kU
              go_wp2_with (first
                | (go_at_call 38; refine (slower_gen _ _ (by omega)).mono ?_; rintro e w5 ⟨rfl, hw5⟩; obtain rfl := hw5.symm)
                | (go_at_call 39; refine (supper_gen _ _ (by omega)).mono ?_; rintro e w5 ⟨rfl, hw5⟩; obtain rfl := hw5.symm)
                | (go_at_call 40; refine (sdigit_gen _ _ (by omega)).mono ?_; rintro e w5 ⟨rfl, hw5⟩; obtain rfl := hw5.symm)
                | (go_at_call 42; refine (sparts_gen _ _ (by omega)).mono ?_; rintro e w5 ⟨rfl, hw5⟩; obtain rfl := hw5.symm)
                | (go_at_call 41; refine (cTt.out _).mono ?_; rintro e w5 ⟨rfl, hw5⟩; obtain rfl := hw5.symm)
                | (at_builtin; refine wpList_append_sep rfl _ _ 39 rfl w1.heap.size 5 i0 (.int .u8 0) 1 Tryd.underlying39 hi hz0 hz1 hz2 rfl _ _ _ rfl (hown.out.alloc _) ⟨wr.heap.size, 0, none⟩ 1 1 [.int .u8 (turn true b).toNat] rfl rfl ?c1 ?c2 ?c3 ?c4 ?c5 ?_))
              case c1 =>
                intro j u hj
                match j, hj with
                | 0, hj => simp at hj; subst hj; simp [Addr.add]
              case c2 => intro u hu; simp at hu; subst hu; rfl
              case c3 => unfold maxLen; omega
              case c4 => omega
              case c5 => simp; omega
              intro v' w2 hown' hgrow _
              go_wp2
              go_roundg gk
              case rel =>
                refine ⟨p ++ [b], rest, o ++ [turn true b], HT2.out, by rw [List.length_append]; go_num, by omega, ?_, ?_, ?_⟩
                · show _ = _
                  rw [HO2.out, HD.out]; simp
                · show World.ownsRowF _ _ _ _ _ _ _
                  rw [List.length_append, byteCells_app]
                  exact hown'
                · exact (hb.alloc hbs _).grown hgrow (by simp; omega) (fun k hk => (hown.out.lt k hk).1)
              case measure => omega
          ·
            have HD : Hid (scamO g p.getLast? b = [turn true b]) := by show _ = _; simp [scamO, HA.out, hyl, kD, turn]
            clear hyl kD kS kU
            go_wp2_with (first
              | (go_at_call 38; refine (slower_gen _ _ (by omega)).mono ?_; rintro e w5 ⟨rfl, hw5⟩; obtain rfl := hw5.symm)
              | (go_at_call 39; refine (supper_gen _ _ (by omega)).mono ?_; rintro e w5 ⟨rfl, hw5⟩; obtain rfl := hw5.symm)
              | (go_at_call 40; refine (sdigit_gen _ _ (by omega)).mono ?_; rintro e w5 ⟨rfl, hw5⟩; obtain rfl := hw5.symm)
              | (go_at_call 42; refine (sparts_gen _ _ (by omega)).mono ?_; rintro e w5 ⟨rfl, hw5⟩; obtain rfl := hw5.symm)
              | (go_at_call 41; refine (cTt.out _).mono ?_; rintro e w5 ⟨rfl, hw5⟩; obtain rfl := hw5.symm)
              | (at_builtin; refine wpList_append_sep rfl _ _ 39 rfl w1.heap.size 5 i0 (.int .u8 0) 1 Tryd.underlying39 hi hz0 hz1 hz2 rfl _ _ _ rfl (hown.out.alloc _) ⟨wr.heap.size, 0, none⟩ 1 1 [.int .u8 (turn true b).toNat] rfl rfl ?c1 ?c2 ?c3 ?c4 ?c5 ?_))
            case c1 =>
              intro j u hj
              match j, hj with
              | 0, hj => simp at hj; subst hj; simp [Addr.add]
            case c2 => intro u hu; simp at hu; subst hu; rfl
            case c3 => unfold maxLen; omega
            case c4 => omega
            case c5 => simp; omega
            intro v' w2 hown' hgrow _
            go_wp2
            go_roundg gk
            case rel =>
              refine ⟨p ++ [b], rest, o ++ [turn true b], HT2.out, by rw [List.length_append]; go_num, by omega, ?_, ?_, ?_⟩
              · show _ = _
                rw [HO2.out, HD.out]; simp
              · show World.ownsRowF _ _ _ _ _ _ _
                rw [List.length_append, byteCells_app]
                exact hown'
              · exact (hb.alloc hbs _).grown hgrow (by simp; omega) (fun k hk => (hown.out.lt k hk).1)
            case measure => omega

end Go.Proofs.YtplillcmgahapaaDoor
