/- The law FnTranslate. -/
import Derived.Test.YtbomlhhpokknaaaDoorTTran
import Derived.Test.YtbomlhhpokknaaaDoorTTranP
import Derived.Test.YtbomlhhpokknaaaDoorTRuneJ
namespace Go.Proofs.YtbomlhhpokknaaaDoor
open Go.RowKit U8
open Go.Lib hiding intOf

set_option maxHeartbeats 800000 in
theorem told_open (a b : ByteArray) (w : World) :
    Calls Tryd.prog 17 #[.string a, .string b, .int .i64 2] w fun e w' => e = .returned (.bool true) ∧ w' = w := by
  go_enter Tryd.func17, Tryd.ntmps17
  go_wp2
  go_ret
  exact ⟨rfl, rfl⟩
theorem told_yes (a : ByteArray) (w : World) :
    Calls Tryd.prog 17 #[.string a, .string a, .int .i64 1] w fun e w' => e = .returned (.bool true) ∧ w' = w := by
  go_enter Tryd.func17, Tryd.ntmps17
  go_wp2
  go_ret
  exact ⟨ret_bool (by simp), rfl⟩
theorem few3 (s t u : ByteArray) (b : Bool) (w : World) (hs : s.size ≤ 2147483647) (ht : t.size ≤ 2147483647) (hu : u.size ≤ 2147483647) (hb : decide (3 + (s.size + (t.size + u.size)) ≤ 400) = b) :
    Calls Tryd.prog 11 #[.slice (some ⟨w.heap.size, 0, none⟩) 3 3] (w.alloc (.cells #[.string s, .string t, .string u] 9)) fun e w' => e = .returned (.bool b) ∧ Below w.heap.size w w' := by
  subst hb
  refine (few_any [s, t, u] w.heap.size 3 _ ?_ (by simp [sizes]; omega)).mono ?_
  · intro j x hj
    match j, hj with
    | 0, hj => simp at hj; subst hj; simp
    | 1, hj => simp at hj; subst hj; simp
    | 2, hj => simp at hj; subst hj; simp
  · rintro e w' ⟨rfl, rfl⟩
    exact ⟨by simp [sizes], (Below.refl _ _).alloc (Nat.le_refl _) _⟩
theorem tran_ex (w : World) (hT : Tabs w) :
    Calls Tryd.prog 15 #[.string ⟨#[104, 101, 108, 108, 111]⟩, .string ⟨#[97, 45, 122]⟩, .string ⟨#[65, 45, 90]⟩] w fun e w' => e = .returned (.string ⟨#[72, 69, 76, 76, 79]⟩) ∧ Below w.heap.size w w' := by
  have c := translate_im [104, 101, 108, 108, 111] [97, 45, 122] [65, 45, 90] w (by simp) (by simp) (by simp) hT
  rw [show trl [104, 101, 108, 108, 111] [97, 45, 122] [65, 45, 90] = [72, 69, 76, 76, 79] by decide +kernel] at c
  exact c
/-- The reference's Translate: Open, or the translator's text. -/
theorem stran_any (l p q : List UInt8) (w : World) (hl : l.length ≤ 2147483647) (hp : p.length ≤ 2147483647) (hq : q.length ≤ 2147483647) (hT : Tabs w) :
    Calls Tryd.prog 16 #[.string (txt l), .string (txt p), .string (txt q)] w fun e w' => Below w.heap.size w w' ∧ ((∃ t, e = .returned (.tuple #[.string t, .int .i64 2])) ∨ e = .returned (.tuple #[.string (txt (trl l p q)), .int .i64 1])) := by
  have hls : (txt l).size ≤ 2147483647 := by rw [txt_size]; exact hl
  have hps : (txt p).size ≤ 2147483647 := by rw [txt_size]; exact hp
  have hqs : (txt q).size ≤ 2147483647 := by rw [txt_size]; exact hq
  have el : ∀ {a b : List UInt8}, txt a = txt b → a = b := fun h => by have := congrArg (fun b => b.data.toList) h; simpa [txt] using this
  by_cases hq0 : q = []
  · subst hq0
    refine (stran_empty (patS false (txt p)) (txt l) (txt p) w (sdel_val (patS false (txt p)) (txt l) (txt p) w hls hT (patS_len false (txt p) hps) (pat_txt false (txt p) w hps hT))).mono ?_
    rintro e w' ⟨hb, h⟩
    refine ⟨hb, ?_⟩
    rcases h with ⟨t, rfl⟩ | ⟨L, nt, rs, h1, h2, h3, rfl⟩
    · exact .inl ⟨t, rfl⟩
    · right
      obtain ⟨ps, h4, h5, h6, rfl⟩ := patS_rd false _ L nt h1
      have e1 := el h2
      have e2 := el h5
      subst e1; subst e2
      rw [trl_del ps rs h4 h3 h6]
  · have hqe : (txt q).toList.isEmpty = false := by rw [txt_toList]; exact List.isEmpty_eq_false_iff.2 hq0
    refine (stran_some (patS false (txt p)) (phi (newTr p q)) (Gd (newTr p q)) (txt l) (txt p) (txt q) w hls hT hqe (fun W h => pat_txt false (txt p) W hps h) (fun W c hc h => ?_)).mono ?_
    · refine (smapped_of (patS false) (patS true) (patS_of2 false) (patS_of2 true) (patS_rd true) c (txt p) (txt q) W hps hqs h).mono ?_
      rintro e w' ⟨hb, out, fnd, says, rfl, hsay⟩
      refine ⟨hb, out, fnd, says, rfl, fun hs => ?_⟩
      have hm := hsay hs
      obtain ⟨k1, k2, _, k4⟩ := mapped_trans (patS false) (patS true) (patS_rd false) (patS_rd true) p q c out fnd hm
      obtain ⟨_, L, nt, M, nt2, _, h2, hms⟩ := hm
      obtain ⟨qs, h6, h7, h8, _⟩ := patS_rd true _ M nt2 h2
      have e2 := el h7
      have hqn : qs ≠ [] := by rintro rfl; exact hq0 e2
      obtain ⟨y, hy, hys⟩ := mapsays_sc hc (pat_scs h6 h8) (pat_ne h8 hqn) hms
      obtain ⟨k5, k6⟩ := gd_of k1 k2 k4 hy
      exact ⟨y, hy, hys, k5, k6⟩
    · rintro e w' ⟨hb, h⟩
      refine ⟨hb, ?_⟩
      rcases h with ⟨t, rfl⟩ | ⟨rs, h2, h3, h4, rfl⟩
      · exact .inl ⟨t, rfl⟩
      · right
        have e1 := el h2
        subst e1
        rw [trl_map p q hq0 rs h3 h4]

set_option maxHeartbeats 1600000 in
set_option maxRecDepth 100000 in
theorem law_translate (s p q : ByteArray) (w : World) (hsz : s.size ≤ 140737488351232) (hpz : p.size ≤ 140737488351232) (hqz : q.size ≤ 140737488351232) (hT : Tabs w) :
    Calls Tryd.prog 5 #[.string s, .string p, .string q] w fun e w' => e = .returned (.bool true) ∧ Below w.heap.size w w' := by
  by_cases hbig : 2147483647 < s.size
  · go_enter Tryd.func5, Tryd.ntmps5
    go_wp2
    go_ret
    exact ⟨rfl, Below.refl _ _⟩
  by_cases hbig2 : 2147483647 < p.size
  · go_enter Tryd.func5, Tryd.ntmps5
    go_wp2
    go_ret
    exact ⟨rfl, Below.refl _ _⟩
  by_cases hbig3 : 2147483647 < q.size
  · go_enter Tryd.func5, Tryd.ntmps5
    go_wp2
    go_ret
    exact ⟨rfl, Below.refl _ _⟩
  have hle : s.size ≤ 2147483647 := by omega
  have hle2 : p.size ≤ 2147483647 := by omega
  have hle3 : q.size ≤ 2147483647 := by omega
  clear hbig hbig2 hbig3 hsz hpz hqz
  cases hfw : decide (3 + (s.size + (p.size + q.size)) ≤ 400) with
  | false =>
    have cF := Lib.hid fun W => few3 s p q false W hle hle2 hle3 hfw
    clear hfw
    go_enter Tryd.func5, Tryd.ntmps5
    go_wp2_with fail
    refine (tran_ex _ hT).mono ?_
    rintro e w1 ⟨rfl, hb1⟩
    go_wp2_with fail
    refine (cF.out _).mono ?_
    rintro e w3 ⟨rfl, hb3⟩
    go_wp2
    go_ret
    exact ⟨rfl, chain hb1 hb3⟩
  | true =>
    have cF := Lib.hid fun W => few3 s p q true W hle hle2 hle3 hfw
    have hfl : 3 + (s.size + (p.size + q.size)) ≤ 400 := of_decide_eq_true hfw
    obtain ⟨l, rfl⟩ : ∃ l, s = txt l := ⟨s.data.toList, (list_txt s).symm⟩
    obtain ⟨a, rfl⟩ : ∃ l, p = txt l := ⟨p.data.toList, (list_txt p).symm⟩
    obtain ⟨b, rfl⟩ : ∃ l, q = txt l := ⟨q.data.toList, (list_txt q).symm⟩
    rw [txt_size, txt_size, txt_size] at hfl
    have cS := Lib.hid fun W (h : Tabs W) => stran_any l a b W (by omega) (by omega) (by omega) h
    have cI := Lib.hid fun W (h : Tabs W) => translate_im l a b W (by omega) (by omega) (by omega) h
    clear hfw hfl
    generalize txt (trl l a b) = D at *
    generalize txt l = s at *
    generalize txt a = p at *
    generalize txt b = q at *
    go_enter Tryd.func5, Tryd.ntmps5
    go_wp2_with fail
    refine (tran_ex _ hT).mono ?_
    rintro e w1 ⟨rfl, hb1⟩
    go_wp2_with fail
    refine (cF.out _).mono ?_
    rintro e w2 ⟨rfl, hb2⟩
    have hb12 := chain hb1 hb2
    clear hb1 hb2
    go_wp2_with fail
    refine (cS.out _ (hT.below hb12)).mono ?_
    rintro e w3 ⟨hb3, h⟩
    have hb13 := chain hb12 hb3
    clear hb12 hb3
    rcases h with ⟨t, rfl⟩ | rfl
    · go_wp2_with fail
      refine (cI.out _ (hT.below hb13)).mono ?_
      rintro e w4 ⟨rfl, hb4⟩
      have hb14 := chain hb13 hb4
      clear hb13 hb4
      go_wp2_with fail
      refine (told_open _ _ _).mono ?_
      rintro e w5 ⟨rfl, hw5⟩
      obtain rfl := hw5.symm
      go_wp2
      go_ret
      exact ⟨rfl, hb14⟩
    · go_wp2_with fail
      refine (cI.out _ (hT.below hb13)).mono ?_
      rintro e w4 ⟨rfl, hb4⟩
      have hb14 := chain hb13 hb4
      clear hb13 hb4
      go_wp2_with fail
      refine (told_yes _ _).mono ?_
      rintro e w5 ⟨rfl, hw5⟩
      obtain rfl := hw5.symm
      go_wp2
      go_ret
      exact ⟨rfl, hb14⟩

end Go.Proofs.YtbomlhhpokknaaaDoor
