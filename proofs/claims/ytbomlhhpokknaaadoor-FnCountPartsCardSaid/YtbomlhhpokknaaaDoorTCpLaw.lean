/- The law FnCountParts: its walk. -/
import Derived.Test.YtbomlhhpokknaaaDoorTRun
import Derived.Test.YtbomlhhpokknaaaDoorTrLaws
import Derived.Test.YtbomlhhpokknaaaDoorTSimple
import Derived.Test.YtbomlhhpokknaaaDoorQHelp
namespace Go.Proofs.YtbomlhhpokknaaaDoor
open Go.RowKit U8
open Go.Lib hiding intOf

theorem count_ex (w : World) (hT : Tabs w) :
    Calls Tryd.prog 13 #[.string ⟨#[104, 101, 108, 108, 111]⟩, .string ⟨#[108, 111]⟩] w fun e w' => e = .returned (.int .i64 3) ∧ Below w.heap.size w w' := by
  have c := count_im [104, 101, 108, 108, 111] [108, 111] w (by simp) (by simp) hT
  rw [show cnt [104, 101, 108, 108, 111] [108, 111] = 3 by decide +kernel] at c
  exact c
theorem sim_head {L : List UInt8} (h : simB L = true) : L ≠ [] ∧ isRev L = false := by
  unfold simB at h
  rw [Bool.and_eq_true, decide_eq_true_eq] at h
  cases L with
  | nil => simp at h
  | cons x r =>
    refine ⟨by simp, ?_⟩
    have h1 := h.1
    rw [List.all_cons, Bool.and_eq_true] at h1
    unfold isRev
    simp only [List.head?_cons]
    by_cases e : x = 94
    · subst e; exact absurd h1.1 (by decide)
    · exact beq_eq_false_iff_ne.2 (by simp [e])

set_option maxHeartbeats 3200000 in
set_option maxRecDepth 100000 in
theorem law_countParts (s q : ByteArray) (w : World) (hsz : s.size ≤ 140737488351232) (hqz : q.size ≤ 140737488351232) (hT : Tabs w) :
    Calls Tryd.prog 9 #[.string s, .string q] w fun e w' => e = .returned (.bool true) ∧ Below w.heap.size w w' := by
  by_cases hbig : 2147483647 < s.size
  · go_enter Tryd.func9, Tryd.ntmps9
    go_wp2
    go_ret
    exact ⟨rfl, Below.refl _ _⟩
  by_cases hbig2 : 2147483647 < q.size
  · go_enter Tryd.func9, Tryd.ntmps9
    go_wp2
    go_ret
    exact ⟨rfl, Below.refl _ _⟩
  have hle : s.size ≤ 2147483647 := by omega
  have hle2 : q.size ≤ 2147483647 := by omega
  clear hbig hbig2 hsz hqz
  obtain ⟨L, rfl⟩ : ∃ L, q = txt L := ⟨q.data.toList, (list_txt q).symm⟩
  have hLs := txt_size L
  rcases ok_cases s with hok | ⟨rs, hs, rfl, hlen, hok⟩
  · have cV := Lib.hid fun W (h : Tabs W) => valid_no s W hle hok h
    go_enter Tryd.func9, Tryd.ntmps9
    go_wp2_with fail
    refine (count_ex _ hT).mono ?_
    rintro e w1 ⟨rfl, hb1⟩
    go_wp2_with fail
    refine (cV.out _ (hT.below hb1)).mono ?_
    rintro e w2 ⟨rfl, hb2⟩
    go_wp2
    go_ret
    exact ⟨rfl, chain hb1 hb2⟩
  have cV := Lib.hid fun W (h : Tabs W) => valid_yes rs W hlen hok h
  cases hf : decide (2 + ((txt (enc rs)).size + (txt L).size) ≤ 400) with
  | false =>
    have cF := Lib.hid fun W => few2 (txt (enc rs)) (txt L) false W hle hle2 hf
    clear hf
    go_enter Tryd.func9, Tryd.ntmps9
    go_wp2_with fail
    refine (count_ex _ hT).mono ?_
    rintro e w1 ⟨rfl, hb1⟩
    go_wp2_with fail
    refine (cV.out _ (hT.below hb1)).mono ?_
    rintro e w2 ⟨rfl, hb2⟩
    go_wp2_with fail
    refine (cF.out _).mono ?_
    rintro e w3 ⟨rfl, hb3⟩
    go_wp2
    go_ret
    exact ⟨rfl, chain (chain hb1 hb2) hb3⟩
  | true =>
    have cF := Lib.hid fun W => few2 (txt (enc rs)) (txt L) true W hle hle2 hf
    have hfl : 2 + ((txt (enc rs)).size + (txt L).size) ≤ 400 := of_decide_eq_true hf
    rw [txt_size, txt_size] at hfl
    have cS0 := fun W => simple_any L W (by omega)
    cases hsb : simB L with
    | false =>
      rw [hsb] at cS0
      have cS := Lib.hid cS0
      clear hf cS0 hsb hfl
      go_enter Tryd.func9, Tryd.ntmps9
      go_wp2_with fail
      refine (count_ex _ hT).mono ?_
      rintro e w1 ⟨rfl, hb1⟩
      go_wp2_with fail
      refine (cV.out _ (hT.below hb1)).mono ?_
      rintro e w2 ⟨rfl, hb2⟩
      go_wp2_with fail
      refine (cF.out _).mono ?_
      rintro e w3 ⟨rfl, hb3⟩
      go_wp2_with fail
      refine (cS.out _).mono ?_
      rintro e w4 ⟨rfl, hw4⟩
      obtain rfl := hw4.symm
      go_wp2
      go_ret
      exact ⟨rfl, chain (chain hb1 hb2) hb3⟩
    | true =>
      rw [hsb] at cS0
      have cS := Lib.hid cS0
      obtain ⟨hLn, hLr⟩ := sim_head hsb
      have hhit := fun (r : Nat) => parts_hit L hLn hLr r
      have hh1 := parts_has L hLn
      have hh2 := parts_has (94 :: L) (by simp)
      have hm1 : cnt (enc rs) L = rs.countP fun (r : Nat) => (newTr L []).hit r := by unfold cnt; rw [if_neg hLn, count_enc _ rs hs]
      have hm2 : cnt (enc rs) (94 :: L) = rs.countP fun (r : Nat) => !(newTr L []).hit r := by
        unfold cnt; rw [if_neg (by simp), count_enc _ rs hs]
        congr 1; funext r; exact hhit r
      have hd1 : trl (enc rs) L [] = enc (rs.filter fun (r : Nat) => !(newTr L []).hit r) := text_del _ rs hs hh1.1 hh1.2
      have hd2 : trl (enc rs) (94 :: L) [] = enc (rs.filter fun (r : Nat) => (newTr L []).hit r) := by
        refine (text_del _ rs hs hh2.1 hh2.2).trans ?_
        congr 2; funext r; rw [hhit r, Bool.not_not]
      have c1 := fun W (h : Tabs W) => count_im (enc rs) L W (by omega) (by omega) h
      have c2 := fun W (h : Tabs W) => count_im (enc rs) (94 :: L) W (by omega) (by simp; omega) h
      have c3 := fun W (h : Tabs W) => delete_im (enc rs) L W (by omega) (by omega) h
      have c4 := fun W (h : Tabs W) => delete_im (enc rs) (94 :: L) W (by omega) (by simp; omega) h
      have hn := countP_not rs fun (r : Nat) => (newTr L []).hit r
      have l1 := enc_filter_len rs fun (r : Nat) => !(newTr L []).hit r
      have l2 := enc_filter_len rs fun (r : Nat) => (newTr L []).hit r
      have c5 := Lib.hid fun W => implLen_any rs W hs (by omega)
      have c6 := fun W => implLen_any (rs.filter fun (r : Nat) => !(newTr L []).hit r) W (scs_filter hs _) (by omega)
      have c7 := fun W => implLen_any (rs.filter fun (r : Nat) => (newTr L []).hit r) W (scs_filter hs _) (by omega)
      rw [← List.countP_eq_length_filter] at c6 c7
      rw [hm1] at c1
      rw [hm2] at c2
      rw [hd1] at c3
      rw [hd2] at c4
      clear hm1 hm2 hd1 hd2 hhit hh1 hh2 hLn hLr l1 l2
      have hcat : ((⟨#[94]⟩ : ByteArray) ++ txt L) = txt (94 :: L) := txt_append [94] L
      generalize (rs.countP fun (r : Nat) => !(newTr L []).hit r) = M at *
      generalize (rs.countP fun (r : Nat) => (newTr L []).hit r) = K at *
      generalize (rs.filter fun (r : Nat) => !(newTr L []).hit r) = F1 at *
      generalize (rs.filter fun (r : Nat) => (newTr L []).hit r) = F2 at *
      have C1 := Lib.hid c1
      have C2 := Lib.hid c2
      have C3 := Lib.hid c3
      have C4 := Lib.hid c4
      have C6 := Lib.hid c6
      have C7 := Lib.hid c7
      have hnb : ((K : Int) + (M : Int) == (rs.length : Int)) = true := by simp; omega
      have hmm : ((M : Int) == (M : Int)) = true := by simp
      have hkk : ((K : Int) == (K : Int)) = true := by simp
      have hKl : K ≤ 1000000 := by have := enc_length_ge rs; omega
      have hMl : M ≤ 1000000 := by have := enc_length_ge rs; omega
      clear hf cS0 hsb hfl hn c1 c2 c3 c4 c6 c7
      go_enter Tryd.func9, Tryd.ntmps9
      go_wp2_with fail
      refine (count_ex _ hT).mono ?_
      rintro e w1 ⟨rfl, hb1⟩
      go_wp2_with fail
      refine (cV.out _ (hT.below hb1)).mono ?_
      rintro e w2 ⟨rfl, hb2⟩
      go_wp2_with fail
      refine (cF.out _).mono ?_
      rintro e w3 ⟨rfl, hb3⟩
      have h3 := chain (chain hb1 hb2) hb3
      clear hb1 hb2 hb3
      go_wp2_with fail
      refine (cS.out _).mono ?_
      rintro e w4 ⟨rfl, hw4⟩
      obtain rfl := hw4.symm
      go_wp2_with fail
      refine (C1.out _ (hT.below h3)).mono ?_
      rintro e w5 ⟨rfl, hb5⟩
      have h5 := chain h3 hb5
      go_wp2_with fail
      refine (C2.out _ (hT.below h5)).mono ?_
      rintro e w6 ⟨rfl, hb6⟩
      have h6 := chain h5 hb6
      go_wp2_with fail
      refine (c5.out _).mono ?_
      rintro e w7 ⟨rfl, hb7⟩
      have h7 := chain h6 hb7
      go_wp2_with fail
      refine (C3.out _ (hT.below h7)).mono ?_
      rintro e w8 ⟨rfl, hb8⟩
      have h8 := chain h7 hb8
      go_wp2_with fail
      refine (C6.out _).mono ?_
      rintro e w9 ⟨rfl, hb9⟩
      have h9 := chain h8 hb9
      go_wp2_with fail
      refine (C4.out _ (hT.below h9)).mono ?_
      rintro e w10 ⟨rfl, hb10⟩
      have h10 := chain h9 hb10
      go_wp2_with fail
      refine (C7.out _).mono ?_
      rintro e w11 ⟨rfl, hb11⟩
      have h11 := chain h10 hb11
      go_wp2
      go_ret
      exact ⟨rfl, h11⟩

end Go.Proofs.YtbomlhhpokknaaaDoor
