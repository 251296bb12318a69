/- translateRune: what the translator tells of a rune. -/
import Derived.Test.YtbomlhhpokknaaaDoorTNewA
import Derived.Test.YtbomlhhpokknaaaDoorTNewB
import Derived.Test.YtbomlhhpokknaaaDoorTNewC
import Derived.Test.YtbomlhhpokknaaaDoorTNewD
import Derived.Deep.CutBlock
namespace Go.Proofs.YtbomlhhpokknaaaDoor
open Go.RowKit U8
open Go.Lib hiding intOf
open Go.Maps (Keyed has IsMap)

set_option maxRecDepth 100000 in
/-- TWO PATTERNS BECOME A TRANSLATOR. -/
theorem new_any (l tx : List UInt8) (w : World) (hl : l.length ≤ 10000) (ht : tx.length ≤ 10000) (hT : Tabs w) :
    Calls Tryd.prog 26 #[.string (txt l), .string (txt tx)] w (NewPost w (newTr l tx)) := by
  by_cases hne : l = []
  · subst hne
    have he : (txt ([] : List UInt8)).toList.isEmpty = true := by rw [txt_toList]; rfl
    have hX : newTr [] tx = ⟨Tr.nil, 0, false, false, false⟩ := by unfold newTr; rw [if_pos rfl]
    rw [hX]
    clear hX
    go_enter Tryd.func26, Tryd.ntmps26
    go_wp2
    go_ret
    have e := (Below.refl w.heap.size w).alloc (Nat.le_refl _) (.cells #[.string (txt tx)] 9)
    refine NewPost.of (B := w.heap.size + 2) rfl ⟨⟨.pointer none, .map none, .slice none 0 0, ?_, by omega, rfl, rfl, [], World.ownsRow_nil _ _ _ _, fun i g R h => by simp at h⟩, Tr.nil_ok, by simp, by simp⟩ (e.alloc (by simp) _)
    have := heap_alloc_new (w.alloc (.cells #[.string (txt tx)] 9)) (.cells #[.pointer none, .map none, .slice none 0 0, .int .i32 0, .bool false, .bool false, .bool false] 61)
    have hs : (w.alloc (.cells #[.string (txt tx)] 9)).heap.size = w.heap.size + 1 := by simp
    rw [hs] at this
    exact this
  · cases hr : isRev l with
    | true =>
      by_cases ht0 : tx = []
      · exact newtr_A l tx w hne ht0 hl ht hr hT
      · exact newtr_B l tx w hne ht0 hl ht hr hT
    | false =>
      by_cases ht0 : tx = []
      · exact newtr_C l tx w hne ht0 hl ht hr hT
      · exact newtr_D l tx w hne ht0 hl ht hr hT

theorem wf_i32 {t : Int} (h1 : -2147483648 ≤ t) (h2 : t ≤ 2147483647) : (Lit.int .i32 t).wf = true := by
  have e1 : IntKind.i32.min = -2147483648 := by decide
  have e2 : IntKind.i32.max = 2147483647 := by decide
  show (decide (IntKind.i32.min ≤ t) && decide (t ≤ IntKind.i32.max)) = true
  rw [e1, e2, Bool.and_eq_true, decide_eq_true_eq, decide_eq_true_eq]
  exact ⟨h1, h2⟩
/-- What the switch leaves. -/
def Pre (X : Tx) (r : Int) (s m : Value) : Prop := m = .bool (X.T.look r).isSome ∧ ∃ z : Int, s = .int .i32 z ∧ ∀ v, X.T.look r = some v → z = if 0 ≤ X.mapped then X.mapped else v
theorem Pre.hit {X : Tx} {r v z : Int} (h : X.T.look r = some v) (hz : z = if 0 ≤ X.mapped then X.mapped else v) : Pre X r (.int .i32 z) (.bool true) := ⟨by rw [h]; rfl, z, rfl, fun v' h' => by rw [h] at h'; cases h'; exact hz⟩
theorem Pre.miss {X : Tx} {r z : Int} (h : X.T.look r = none) : Pre X r (.int .i32 z) (.bool false) := ⟨by rw [h]; rfl, z, rfl, fun v' h' => by rw [h] at h'; cases h'⟩
theorem rlook_snoc (l : List (Int × Int × Int × Int)) (m : Nat) (R : Int × Int × Int × Int) (h : l[m]? = some R) (r : Int) : rlook (l.take (m + 1)).reverse r = if R.1 ≤ r ∧ r ≤ R.2.1 then some (rngAt R r) else rlook (l.take m).reverse r := by
  rw [List.take_add_one, h]
  simp [rlook]
/-- The cells of a translator. -/
theorem tx_cells {B b : Nat} {X : Tx} {w : World} (h : TxAt B b X w) : ∃ q m v, w.cell? ⟨b, 0, none⟩ = some q ∧ w.cell? ⟨b, 1, none⟩ = some m ∧ w.cell? ⟨b, 2, none⟩ = some v ∧ w.cell? ⟨b, 3, none⟩ = some (.int .i32 X.mapped) ∧ w.cell? ⟨b, 4, none⟩ = some (.bool X.rev) ∧ w.cell? ⟨b, 5, none⟩ = some (.bool X.del) ∧ w.cell? ⟨b, 6, none⟩ = some (.bool X.has) ∧
    DictAt B q X.T.dict w ∧ MapAt B X.T.sing.length m X.T.rmap w ∧ RgsAt B v X.T.rgs w := by
  obtain ⟨⟨q, m, v, h1, h2, h3, h4, h5⟩, _⟩ := h
  exact ⟨q, m, v, by simp [World.cell?, h1], by simp [World.cell?, h1], by simp [World.cell?, h1], by simp [World.cell?, h1], by simp [World.cell?, h1], by simp [World.cell?, h1], by simp [World.cell?, h1], h3, h4, h5⟩
theorem TxAt.below {B b : Nat} {X : Tx} {w w' : World} (h : TxAt B b X w) (hb : Below w.heap.size w w') : TxAt B b X w' := ⟨h.1.below hb, h.2⟩

set_option maxHeartbeats 6400000 in
set_option maxRecDepth 100000 in
theorem trune_any (B b : Nat) (X : Tx) (n : Nat) (w : World) (h1 : n ≤ 2147483647) (hX : TxAt B b X w) :
    Calls Tryd.prog 44 #[.pointer (some ⟨b, 0, none⟩), .int .i32 n] w fun e w' => e = .returned (.tuple #[.int .i32 (X.trans n).1, .bool (X.trans n).2.1, .bool (X.trans n).2.2]) ∧ Below w.heap.size w w' := by
  have qN : ∀ (w : World) (r : Option Nat), (binOp .neq 58 (.map r) (.map none)).run Tryd.prog w = .ok (.bool (!r.isNone)) w := fun w r => run_neq_map_nil w _ _ _ r Tryd.underlying58
  have HX := Lib.hid hX
  obtain ⟨q, m, v, c0, c1, c2, c3, c4, c5, c6, hd, hm, hr⟩ := tx_cells hX
  have hrok := hX.2.1.rgs
  clear hX
  go_enter Tryd.func44, Tryd.ntmps44
  go_upto_block 0 with fail
  go_cut [4, 5] (fun s m W => Pre X n s m ∧ Below w.heap.size w W)
  case first =>
    as_aux_lemma =>
      go_upto_block 3 with fail
      go_cut [4, 5] (fun s m W => (∃ z : Int, s = .int .i32 z) ∧ m = .bool false ∧ Hid (X.T.look n = rlook X.T.rgs.reverse n) ∧ W = w)
      case first =>
        as_aux_lemma =>
          cases hL : X.T.dict with
          | none =>
            rw [hL] at hd
            have hd' : q = .pointer none := hd
            subst hd'
            have hdt : (if (n : Int) ≤ 127 then X.T.dict.bind (lkp · n) else none) = none := by rw [hL]; simp
            have HDT := Lib.hid hdt
            clear hdt hL
            cases hL2 : X.T.rmap with
            | none =>
              rw [hL2] at hm
              have hm' : m = .map none := hm
              subst hm'
              have HK : Hid (X.T.look n = rlook X.T.rgs.reverse n) := by
                show _ = _
                unfold Tr.look
                rw [HDT.out, hL2]
                rfl
              clear hL2 hd hr hrok
              have hnl : (Instr.lookup 58 (.map none) (.int .i32 n) true).run Tryd.prog w = .ok (.tuple #[.int .i32 0, .bool false]) w := Go.Maps.look_nil true (Go.Maps.int_keyed Tryd.underlying21) Tryd.underlying58 (show (zeroValue 21).run Tryd.prog w = .ok (.int .i32 0) w by kernel_rfl) (Go.Maps.keyOf_int_mk Tryd.underlying21 (show (Lit.int .i32 (n : Int)).wf = true from wf_i32 (by omega) (by omega)))
              go_wp2
              go_meet
              exact ⟨⟨_, rfl⟩, rfl, HK.out, rfl⟩
            | some L2 =>
              rw [hL2] at hm
              obtain ⟨k, D, n', rfl, _, _, hM, hD⟩ := hm
              have hkey := Go.Maps.keyOf_int_mk Tryd.underlying21 (show (Lit.int .i32 (n : Int)).wf = true from wf_i32 (by omega) (by omega))
              have hzz : (zeroValue 21).run Tryd.prog w = .ok (.int .i32 0) w := by kernel_rfl
              cases hl2 : lkp L2 n with
              | some v2 =>
                obtain ⟨hhas, hat⟩ := (hD.2 n).2 v2 hl2
                have HK : Hid (X.T.look n = some v2) := by
                  show _ = _
                  unfold Tr.look
                  rw [HDT.out, hL2]
                  simp only [Option.bind_some, hl2]
                clear hL2 hl2 hrok hr hd
                by_cases hmp : 0 ≤ X.mapped
                · go_wp2_with (at_lookup; refine wpList_lookup_own_ok_int _ rfl _ _ 58 rfl 21 21 .i32 (Go.Maps.int_keyed Tryd.underlying21) Tryd.underlying58 Tryd.underlying21 hzz k n' D rfl hM _ _ rfl hkey ?_; intro c hc _; rw [hhas])
                  go_meet
                  exact ⟨Pre.hit HK.out (by rw [if_pos hmp]), Below.refl _ _⟩
                · go_wp2_with (at_lookup; refine wpList_lookup_own_ok_int _ rfl _ _ 58 rfl 21 21 .i32 (Go.Maps.int_keyed Tryd.underlying21) Tryd.underlying58 Tryd.underlying21 hzz k n' D rfl hM _ _ rfl hkey ?_; intro c hc _; have HC := Lib.hid hc; clear hc; rw [hhas])
                  go_meet
                  exact ⟨Pre.hit HK.out (by rw [if_neg (by omega)]; have := HC.out.symm.trans hat; injection this with this; injection this), Below.refl _ _⟩
              | none =>
                have hhas := (hD.2 n).1 hl2
                have HK : Hid (X.T.look n = rlook X.T.rgs.reverse n) := by
                  show _ = _
                  unfold Tr.look
                  rw [HDT.out, hL2]
                  simp only [Option.bind_some, hl2]
                clear hL2 hl2 hd hr hrok
                go_wp2_with (at_lookup; refine wpList_lookup_own_ok_int _ rfl _ _ 58 rfl 21 21 .i32 (Go.Maps.int_keyed Tryd.underlying21) Tryd.underlying58 Tryd.underlying21 hzz k n' D rfl hM _ _ rfl hkey ?_; intro c _ _; rw [hhas])
                go_meet
                exact ⟨⟨_, rfl⟩, rfl, HK.out, rfl⟩
          | some L =>
            rw [hL] at hd
            obtain ⟨d, C, rfl, _, hC, hsz, hdc⟩ := hd
            have hd := trivial
            by_cases h127 : n ≤ 127
            · have cf : w.cell? ⟨d, n, none⟩ = some (.int .i32 ((lkp L n).getD 0)) := by rw [← (hdc n (by omega)).1]; simp [World.cell?, hC]
              have cg : w.cell? ⟨d, 128 + n, none⟩ = some (.bool (lkp L n).isSome) := by rw [← (hdc n (by omega)).2]; simp [World.cell?, hC]
              cases hl : lkp L n with
              | some v1 =>
                rw [hl] at cf cg
                have cf : w.cell? ⟨d, n, none⟩ = some (.int .i32 v1) := cf
                have cg : w.cell? ⟨d, 128 + n, none⟩ = some (.bool true) := cg
                have HK : Hid (X.T.look n = some v1) := by
                  show _ = _
                  unfold Tr.look
                  rw [if_pos (by omega), hL]
                  simp only [Option.bind_some, hl]
                clear hL hl hrok hr hdc hC hm
                by_cases hmp : 0 ≤ X.mapped
                · go_wp2
                  go_meet
                  exact ⟨Pre.hit HK.out (by rw [if_pos hmp]), Below.refl _ _⟩
                · go_wp2
                  go_meet
                  exact ⟨Pre.hit HK.out (by rw [if_neg (by omega)]), Below.refl _ _⟩
              | none =>
                rw [hl] at cg
                have cg : w.cell? ⟨d, 128 + n, none⟩ = some (.bool false) := cg
                have hdt : (if (n : Int) ≤ 127 then X.T.dict.bind (lkp · n) else none) = none := by rw [hL]; simp [hl]
                have HDT := Lib.hid hdt
                clear hdt hL hl hdc hC cf
                cases hL2 : X.T.rmap with
                | none =>
                  rw [hL2] at hm
                  have hm' : m = .map none := hm
                  subst hm'
                  have HK : Hid (X.T.look n = rlook X.T.rgs.reverse n) := by
                    show _ = _
                    unfold Tr.look
                    rw [HDT.out, hL2]
                    rfl
                  clear hL2 hd hr hrok
                  have hnl : (Instr.lookup 58 (.map none) (.int .i32 n) true).run Tryd.prog w = .ok (.tuple #[.int .i32 0, .bool false]) w := Go.Maps.look_nil true (Go.Maps.int_keyed Tryd.underlying21) Tryd.underlying58 (show (zeroValue 21).run Tryd.prog w = .ok (.int .i32 0) w by kernel_rfl) (Go.Maps.keyOf_int_mk Tryd.underlying21 (show (Lit.int .i32 (n : Int)).wf = true from wf_i32 (by omega) (by omega)))
                  go_wp2
                  go_meet
                  exact ⟨⟨_, rfl⟩, rfl, HK.out, rfl⟩
                | some L2 =>
                  rw [hL2] at hm
                  obtain ⟨k, D, n', rfl, _, _, hM, hD⟩ := hm
                  have hkey := Go.Maps.keyOf_int_mk Tryd.underlying21 (show (Lit.int .i32 (n : Int)).wf = true from wf_i32 (by omega) (by omega))
                  have hzz : (zeroValue 21).run Tryd.prog w = .ok (.int .i32 0) w := by kernel_rfl
                  cases hl2 : lkp L2 n with
                  | some v2 =>
                    obtain ⟨hhas, hat⟩ := (hD.2 n).2 v2 hl2
                    have HK : Hid (X.T.look n = some v2) := by
                      show _ = _
                      unfold Tr.look
                      rw [HDT.out, hL2]
                      simp only [Option.bind_some, hl2]
                    clear hL2 hl2 hrok hr hd
                    by_cases hmp : 0 ≤ X.mapped
                    · go_wp2_with (at_lookup; refine wpList_lookup_own_ok_int _ rfl _ _ 58 rfl 21 21 .i32 (Go.Maps.int_keyed Tryd.underlying21) Tryd.underlying58 Tryd.underlying21 hzz k n' D rfl hM _ _ rfl hkey ?_; intro c hc _; rw [hhas])
                      go_meet
                      exact ⟨Pre.hit HK.out (by rw [if_pos hmp]), Below.refl _ _⟩
                    · go_wp2_with (at_lookup; refine wpList_lookup_own_ok_int _ rfl _ _ 58 rfl 21 21 .i32 (Go.Maps.int_keyed Tryd.underlying21) Tryd.underlying58 Tryd.underlying21 hzz k n' D rfl hM _ _ rfl hkey ?_; intro c hc _; have HC := Lib.hid hc; clear hc; rw [hhas])
                      go_meet
                      exact ⟨Pre.hit HK.out (by rw [if_neg (by omega)]; have := HC.out.symm.trans hat; injection this with this; injection this), Below.refl _ _⟩
                  | none =>
                    have hhas := (hD.2 n).1 hl2
                    have HK : Hid (X.T.look n = rlook X.T.rgs.reverse n) := by
                      show _ = _
                      unfold Tr.look
                      rw [HDT.out, hL2]
                      simp only [Option.bind_some, hl2]
                    clear hL2 hl2 hd hr hrok
                    go_wp2_with (at_lookup; refine wpList_lookup_own_ok_int _ rfl _ _ 58 rfl 21 21 .i32 (Go.Maps.int_keyed Tryd.underlying21) Tryd.underlying58 Tryd.underlying21 hzz k n' D rfl hM _ _ rfl hkey ?_; intro c _ _; rw [hhas])
                    go_meet
                    exact ⟨⟨_, rfl⟩, rfl, HK.out, rfl⟩
            · have hdt : (if (n : Int) ≤ 127 then X.T.dict.bind (lkp · n) else none) = none := by rw [if_neg (by omega)]
              have HDT := Lib.hid hdt
              clear hdt hL hdc hC
              cases hL2 : X.T.rmap with
              | none =>
                rw [hL2] at hm
                have hm' : m = .map none := hm
                subst hm'
                have HK : Hid (X.T.look n = rlook X.T.rgs.reverse n) := by
                  show _ = _
                  unfold Tr.look
                  rw [HDT.out, hL2]
                  rfl
                clear hL2 hd hr hrok
                have hnl : (Instr.lookup 58 (.map none) (.int .i32 n) true).run Tryd.prog w = .ok (.tuple #[.int .i32 0, .bool false]) w := Go.Maps.look_nil true (Go.Maps.int_keyed Tryd.underlying21) Tryd.underlying58 (show (zeroValue 21).run Tryd.prog w = .ok (.int .i32 0) w by kernel_rfl) (Go.Maps.keyOf_int_mk Tryd.underlying21 (show (Lit.int .i32 (n : Int)).wf = true from wf_i32 (by omega) (by omega)))
                go_wp2
                go_meet
                exact ⟨⟨_, rfl⟩, rfl, HK.out, rfl⟩
              | some L2 =>
                rw [hL2] at hm
                obtain ⟨k, D, n', rfl, _, _, hM, hD⟩ := hm
                have hkey := Go.Maps.keyOf_int_mk Tryd.underlying21 (show (Lit.int .i32 (n : Int)).wf = true from wf_i32 (by omega) (by omega))
                have hzz : (zeroValue 21).run Tryd.prog w = .ok (.int .i32 0) w := by kernel_rfl
                cases hl2 : lkp L2 n with
                | some v2 =>
                  obtain ⟨hhas, hat⟩ := (hD.2 n).2 v2 hl2
                  have HK : Hid (X.T.look n = some v2) := by
                    show _ = _
                    unfold Tr.look
                    rw [HDT.out, hL2]
                    simp only [Option.bind_some, hl2]
                  clear hL2 hl2 hrok hr hd
                  by_cases hmp : 0 ≤ X.mapped
                  · go_wp2_with (at_lookup; refine wpList_lookup_own_ok_int _ rfl _ _ 58 rfl 21 21 .i32 (Go.Maps.int_keyed Tryd.underlying21) Tryd.underlying58 Tryd.underlying21 hzz k n' D rfl hM _ _ rfl hkey ?_; intro c hc _; rw [hhas])
                    go_meet
                    exact ⟨Pre.hit HK.out (by rw [if_pos hmp]), Below.refl _ _⟩
                  · go_wp2_with (at_lookup; refine wpList_lookup_own_ok_int _ rfl _ _ 58 rfl 21 21 .i32 (Go.Maps.int_keyed Tryd.underlying21) Tryd.underlying58 Tryd.underlying21 hzz k n' D rfl hM _ _ rfl hkey ?_; intro c hc _; have HC := Lib.hid hc; clear hc; rw [hhas])
                    go_meet
                    exact ⟨Pre.hit HK.out (by rw [if_neg (by omega)]; have := HC.out.symm.trans hat; injection this with this; injection this), Below.refl _ _⟩
                | none =>
                  have hhas := (hD.2 n).1 hl2
                  have HK : Hid (X.T.look n = rlook X.T.rgs.reverse n) := by
                    show _ = _
                    unfold Tr.look
                    rw [HDT.out, hL2]
                    simp only [Option.bind_some, hl2]
                  clear hL2 hl2 hd hr hrok
                  go_wp2_with (at_lookup; refine wpList_lookup_own_ok_int _ rfl _ _ 58 rfl 21 21 .i32 (Go.Maps.int_keyed Tryd.underlying21) Tryd.underlying58 Tryd.underlying21 hzz k n' D rfl hM _ _ rfl hkey ?_; intro c _ _; rw [hhas])
                  go_meet
                  exact ⟨⟨_, rfl⟩, rfl, HK.out, rfl⟩
      case rest =>
      as_aux_lemma =>
        obtain ⟨⟨z0, rfl⟩, rfl, HK, hwc⟩ := hcut
        obtain rfl := hwc.symm
        obtain ⟨gs, hgs, hga⟩ := hr
        have hlen : gs.length = X.T.rgs.length := by have := hgs.1; simp [ptrs] at this; omega
        obtain ⟨ao, cap, rfl⟩ := owns_slice hgs
        have hmax : X.T.rgs.length ≤ 9223372036854775807 := by
          rcases hgs.2 with ⟨_, h⟩ | ⟨g, cap, cur, _, _, _, h1, h2, _⟩
          · omega
          · unfold maxLen at h2; omega
        have HGA := Lib.hid hga
        have HGS := Lib.hid hgs
        have HRO := Lib.hid hrok
        clear hga hgs hlen hrok hd hm c0 c1 c4 c5 c6
        go_wp2
        go_loopg [4, 5, 10] (X.T.rgs.length + 1) (fun gk s m' i wr => ∃ (j z : Int), s = .int .i32 z ∧ m' = .bool false ∧ i = .int .i64 j ∧ -1 ≤ j ∧ j < X.T.rgs.length ∧ (j + 1).toNat < gk ∧ Hid (X.T.look n = rlook (X.T.rgs.take (j + 1).toNat).reverse n) ∧ wr = w)
        case atStart => exact ⟨(X.T.rgs.length : Int) - 1, _, rfl, rfl, rfl, by omega, by omega, by omega, by rw [show ((X.T.rgs.length : Int) - 1 + 1).toNat = X.T.rgs.length by omega, List.take_length]; exact HK.out, rfl⟩
        case round =>
          obtain ⟨j, z, rfl, rfl, rfl, hj0, hj1, hg, HK2, hwr⟩ := hrel
          obtain rfl := hwr.symm
          obtain ⟨gk, rfl⟩ : ∃ m, gk = m + 1 := ⟨gk - 1, by omega⟩
          clear HK
          by_cases hj : 0 ≤ j
          · obtain ⟨m, rfl⟩ : ∃ m : Nat, j = (m : Int) := ⟨j.toNat, by omega⟩
            have hmr : m < X.T.rgs.length := by omega
            obtain ⟨R, hR⟩ : ∃ R, X.T.rgs[m]? = some R := ⟨_, List.getElem?_eq_getElem hmr⟩
            have hlen : gs.length = X.T.rgs.length := by have := HGS.out.1; simp [ptrs] at this; omega
            obtain ⟨g1, hg1⟩ : ∃ g1, gs[m]? = some g1 := ⟨_, List.getElem?_eq_getElem (by omega)⟩
            obtain ⟨g, _, rfl⟩ := owns_some HGS.out (by omega)
            have cm : w.cell? ⟨g, m, none⟩ = some (.pointer (some ⟨g1, 0, none⟩)) := by
              rw [World.ownsRow.cellAt HGS.out m (by omega)]
              simp [ptrs, hg1]
            have hbl := (HGA.out m g1 R hg1 hR).2
            obtain ⟨R1, R2, R3, R4⟩ := R
            have k0 : w.cell? ⟨g1, 0, none⟩ = some (.int .i32 R1) := by simp [World.cell?, hbl, rngCells]
            have k1 : w.cell? ⟨g1, 1, none⟩ = some (.int .i32 R2) := by simp [World.cell?, hbl, rngCells]
            have k2 : w.cell? ⟨g1, 2, none⟩ = some (.int .i32 R3) := by simp [World.cell?, hbl, rngCells]
            have k3 : w.cell? ⟨g1, 3, none⟩ = some (.int .i32 R4) := by simp [World.cell?, hbl, rngCells]
            obtain ⟨o1, o2, o3, o4⟩ := HRO.out _ (List.mem_of_getElem? hR)
            unfold Cp at o1 o2 o3 o4
            have hst := HK2.out
            rw [show ((m : Int) + 1).toNat = m + 1 by omega, rlook_snoc _ m _ hR n] at hst
            dsimp only at hst o1 o2 o3 o4
            clear HK2 hR hg1 hbl hlen HRO
            by_cases hlo : R1 ≤ (n : Int)
            · by_cases hhi : (n : Int) ≤ R2
              · rw [if_pos ⟨hlo, hhi⟩] at hst
                have HST := Lib.hid hst
                clear hst
                by_cases hmp : 0 ≤ X.mapped
                · go_wp2
                  go_meet
                  exact ⟨Pre.hit HST.out (by rw [if_pos hmp]), Below.refl _ _⟩
                · rcases (show R3 < R4 ∨ R4 < R3 ∨ R3 = R4 by omega) with h34 | h34 | h34
                  · have v1 : IntKind.i32.wrap (R3 + (n : Int)) = R3 + (n : Int) := IntWalk.i32_in _ (by omega)
                    have v2 : IntKind.i32.wrap (R3 + (n : Int) - R1) = R3 + (n : Int) - R1 := IntWalk.i32_in _ (by omega)
                    have hE : Pre X n (.int .i32 (R3 + (n : Int) - R1)) (.bool true) := Pre.hit HST.out (by rw [if_neg (by omega)]; unfold rngAt; dsimp only; rw [if_pos h34])
                    have HE := Lib.hid hE
                    clear hE HST
                    go_wp2
                    go_quiet (fail)
                    go_wp2
                    go_quiet (fail)
                    go_wp2
                    go_meet
                    exact ⟨HE.out, ⟨rfl, rfl, rfl, Nat.le_refl _, fun _ _ => rfl⟩⟩
                  · have h34' : ¬ R3 < R4 := by omega
                    have v1 : IntKind.i32.wrap (R3 - (n : Int)) = R3 - (n : Int) := IntWalk.i32_in _ (by omega)
                    have v2 : IntKind.i32.wrap (R3 - (n : Int) + R1) = R3 - (n : Int) + R1 := IntWalk.i32_in _ (by omega)
                    have hE : Pre X n (.int .i32 (R3 - (n : Int) + R1)) (.bool true) := Pre.hit HST.out (by rw [if_neg (by omega)]; unfold rngAt; dsimp only; rw [if_neg h34', if_pos h34])
                    have HE := Lib.hid hE
                    clear hE HST
                    go_wp2
                    go_quiet (fail)
                    go_wp2
                    go_quiet (fail)
                    go_wp2
                    go_quiet (fail)
                    go_wp2
                    go_meet
                    exact ⟨HE.out, ⟨rfl, rfl, rfl, Nat.le_refl _, fun _ _ => rfl⟩⟩
                  · have h34' : ¬ R3 < R4 := by omega
                    have h34'' : ¬ R4 < R3 := by omega
                    have hE : Pre X n (.int .i32 R3) (.bool true) := Pre.hit HST.out (by rw [if_neg (by omega)]; unfold rngAt; dsimp only; rw [if_neg h34', if_neg h34''])
                    have HE := Lib.hid hE
                    clear hE HST h34
                    go_wp2
                    go_quiet (fail)
                    go_wp2
                    go_quiet (fail)
                    go_wp2
                    go_meet
                    exact ⟨HE.out, ⟨rfl, rfl, rfl, Nat.le_refl _, fun _ _ => rfl⟩⟩
              · rw [if_neg (fun h => hhi h.2)] at hst
                have HST := Lib.hid hst
                clear hst
                go_wp2
                go_roundg gk
                case rel => exact ⟨(m : Int) - 1, z, rfl, rfl, rfl, by omega, by omega, by omega, by rw [show ((m : Int) - 1 + 1).toNat = m by omega]; exact HST.out, rfl⟩
                case measure => omega
            · rw [if_neg (fun h => hlo h.1)] at hst
              have HST := Lib.hid hst
              clear hst
              go_wp2
              go_roundg gk
              case rel => exact ⟨(m : Int) - 1, z, rfl, rfl, rfl, by omega, by omega, by omega, by rw [show ((m : Int) - 1 + 1).toNat = m by omega]; exact HST.out, rfl⟩
              case measure => omega
          · obtain rfl : j = -1 := by omega
            have HKN : Hid (X.T.look n = none) := HK2.out
            clear HK2
            go_wp2
            go_meet
            exact ⟨Pre.miss HKN.out, Below.refl _ _⟩
  case rest =>
  as_aux_lemma =>
    obtain ⟨⟨rfl, z, rfl, hz⟩, hbc⟩ := hcut
    obtain ⟨q, m, v, c0, c1, c2, c3, c4, c5, c6, hd, hm, hr⟩ := tx_cells (HX.out.below hbc)
    have HZ := Lib.hid hz
    clear hz hd hm hr qN HX c0 c1 c2 c6
    cases ho : X.T.look n with
    | some v0 =>
      have hz := HZ.out v0 ho
      have hm1 : (some v0 : Option Int).isSome = true := rfl
      rw [hm1]
      cases hR : X.rev with
      | true =>
        rw [hR] at c4
        cases hD : X.del with
        | true =>
          rw [hD] at c5
          have HT : Hid (X.trans n = ((n : Int), false, false)) := by
            show _ = _
            unfold Tx.trans Tx.hit Tx.res
            rw [ho, hR, hD]
            simp
          clear hz ho hR hD HZ
          go_wp2
          go_ret3
          exact ⟨by rw [HT.out]; rfl, hbc⟩
        | false =>
          rw [hD] at c5
          have HT : Hid (X.trans n = ((n : Int), false, false)) := by
            show _ = _
            unfold Tx.trans Tx.hit Tx.res
            rw [ho, hR, hD]
            simp
          clear hz ho hR hD HZ
          go_wp2
          go_ret3
          exact ⟨by rw [HT.out]; rfl, hbc⟩
      | false =>
        rw [hR] at c4
        cases hD : X.del with
        | true =>
          rw [hD] at c5
          have HT : Hid (X.trans n = (z, true, true)) := by
            show _ = _
            unfold Tx.trans Tx.hit Tx.res
            rw [ho, hR, hD]
            simp [hz]
          clear hz ho hR hD HZ
          go_wp2
          go_ret3
          exact ⟨by rw [HT.out]; rfl, hbc⟩
        | false =>
          rw [hD] at c5
          have HT : Hid (X.trans n = (z, true, false)) := by
            show _ = _
            unfold Tx.trans Tx.hit Tx.res
            rw [ho, hR, hD]
            simp [hz]
          clear hz ho hR hD HZ
          go_wp2
          go_ret3
          exact ⟨by rw [HT.out]; rfl, hbc⟩
    | none =>
      have hm1 : (none : Option Int).isSome = false := rfl
      rw [hm1]
      cases hR : X.rev with
      | true =>
        rw [hR] at c4
        cases hD : X.del with
        | true =>
          rw [hD] at c5
          have HT : Hid (X.trans n = (X.mapped, true, true)) := by
            show _ = _
            unfold Tx.trans Tx.hit Tx.res
            rw [ho, hR, hD]
            simp
          clear ho hR hD HZ
          go_wp2
          go_ret3
          exact ⟨by rw [HT.out]; rfl, hbc⟩
        | false =>
          rw [hD] at c5
          have HT : Hid (X.trans n = (X.mapped, true, false)) := by
            show _ = _
            unfold Tx.trans Tx.hit Tx.res
            rw [ho, hR, hD]
            simp
          clear ho hR hD HZ
          go_wp2
          go_ret3
          exact ⟨by rw [HT.out]; rfl, hbc⟩
      | false =>
        rw [hR] at c4
        cases hD : X.del with
        | true =>
          rw [hD] at c5
          have HT : Hid (X.trans n = ((n : Int), false, false)) := by
            show _ = _
            unfold Tx.trans Tx.hit Tx.res
            rw [ho, hR, hD]
            simp
          clear ho hR hD HZ
          go_wp2
          go_ret3
          exact ⟨by rw [HT.out]; rfl, hbc⟩
        | false =>
          rw [hD] at c5
          have HT : Hid (X.trans n = ((n : Int), false, false)) := by
            show _ = _
            unfold Tx.trans Tx.hit Tx.res
            rw [ho, hR, hD]
            simp
          clear ho hR hD HZ
          go_wp2
          go_ret3
          exact ⟨by rw [HT.out]; rfl, hbc⟩

end Go.Proofs.YtbomlhhpokknaaaDoor
