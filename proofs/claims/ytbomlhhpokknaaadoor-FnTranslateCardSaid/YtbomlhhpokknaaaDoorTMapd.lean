/- The reference's Mapped: its walk. -/
import Derived.Test.YtbomlhhpokknaaaDoorTCnt
namespace Go.Proofs.YtbomlhhpokknaaaDoor
open Go.RowKit U8
open Go.Lib hiding intOf

/-- What Mapped says where it says something. -/
def MapSays (L : List Nat) (nt : Bool) (M : List Nat) (c : Nat) (out : Int) (fnd : Bool) : Prop :=
  (nt = true ∧ M.length = 1 ∧ fnd = inS L nt c ∧ out = if fnd then nth (cast M) 0 else (c : Int)) ∨
  (nt = false ∧ fnd = inS L nt c ∧ (fnd = false → out = (c : Int)) ∧ (fnd = true → ∀ i, L[i]? = some c → out = nth (cast M) i))
def MapPost (R1 R2 : Option (List Nat × Bool)) (q : ByteArray) (c : Nat) (w : World) (e : Ending) (w' : World) : Prop :=
  Below w.heap.size w w' ∧ ∃ (out : Int) (fnd : Bool) (says : Int), e = .returned (.tuple #[.int .i32 out, .bool fnd, .int .i64 says]) ∧
    (says = 1 → q.toList.isEmpty = false ∧ ∃ L nt M nt2, R1 = some (L, nt) ∧ R2 = some (M, nt2) ∧ MapSays L nt M c out fnd)
theorem MapPost.open {R1 R2 : Option (List Nat × Bool)} {q : ByteArray} {c : Nat} {w w' : World} {e : Ending} {out : Int} {fnd : Bool} (hb : Below w.heap.size w w') (he : e = .returned (.tuple #[.int .i32 out, .bool fnd, .int .i64 2])) : MapPost R1 R2 q c w e w' :=
  ⟨hb, out, fnd, 2, he, fun h => (by cases h)⟩
theorem any_take (L : List Nat) (c k x : Nat) (h : L[k]? = some x) : (L.take (k + 1)).any (· == c) = ((L.take k).any (· == c) || (x == c)) := by
  rw [List.take_add_one, h, List.any_append]
  simp
theorem nth_cast (M : List Nat) (i : Nat) (x : Nat) (h : M[min i (M.length - 1)]? = some x) : nth (cast M) i = (x : Int) := by
  unfold nth cast
  rw [List.length_map, List.getElem?_map, h]
  rfl

set_option maxHeartbeats 3200000 in
set_option maxRecDepth 100000 in
theorem smapped_any (R1 R2 : Option (List Nat × Bool)) (c : Nat) (p q : ByteArray) (w : World) (hT : Tabs w)
    (hR1 : ∀ L nt, R1 = some (L, nt) → L.length ≤ 20000000000000) (hR2 : ∀ L nt, R2 = some (L, nt) → L.length ≤ 20000000000000 ∧ (q.toList.isEmpty = false → L ≠ []))
    (cP : ∀ W, Tabs W → Calls Tryd.prog 29 #[.string p, .bool false] W (SetPost R1 W)) (cQ : ∀ W, Tabs W → Calls Tryd.prog 29 #[.string q, .bool true] W (SetPost R2 W)) :
    Calls Tryd.prog 12 #[.int .i32 c, .string p, .string q] w (MapPost R1 R2 q c w) := by
  have CP := Lib.hid cP
  have CQ := Lib.hid cQ
  have HL1 := Lib.hid hR1
  have HL2 := Lib.hid hR2
  clear cP cQ hR1 hR2
  go_enter Tryd.func12, Tryd.ntmps12
  go_wp2_with fail
  refine (CP.out _ hT).mono ?_
  rintro e w1 ⟨hb1, h⟩
  have hk1 := hb1.size
  rcases h with ⟨hR0, ao, n, cp, nb, rfl⟩ | ⟨L, nt, hR, ao, cap, rfl, hown⟩
  · have hb2 := hb1.alloc hk1 (.cells #[.slice ao n cp, .bool nb] 51)
    have CQ2 := Lib.hid (CQ.out _ (hT.below hb2))
    have HB2 := Lib.hid hb2
    clear CP CQ hb1 hb2
    go_wp2_with fail
    refine CQ2.out.mono ?_
    rintro e w3 ⟨hb3, h⟩
    have HB3 := Lib.hid (chain HB2.out hb3)
    have hk3 := HB3.out.size
    clear hb3
    rcases h with ⟨hR0, ao2, n2, cp2, nb2, rfl⟩ | ⟨L2, nt2, hR2, ao2, cap2, rfl, hown2⟩
    · have HB4 := Lib.hid (HB3.out.alloc hk3 (.cells #[.slice ao2 n2 cp2, .bool nb2] 51))
      go_wp2
      go_ret3
      exact MapPost.open HB4.out rfl
    · have HB4 := Lib.hid (HB3.out.alloc hk3 (.cells #[.slice ao2 L2.length cap2, .bool nt2] 51))
      go_wp2
      go_ret3
      exact MapPost.open HB4.out rfl
  · have hb2 := hb1.alloc hk1 (.cells #[.slice ao L.length cap, .bool nt] 51)
    have ho2 := World.ownsRow.alloc hown (.cells #[.slice ao L.length cap, .bool nt] 51)
    have hx2 := heap_alloc_new w1 (.cells #[.slice ao L.length cap, .bool nt] 51)
    have hal := HL1.out L nt hR
    have HRR := Lib.hid hR
    clear hR hown HL1 CP
    go_upto_region 2 with fail
    have CQ2 := Lib.hid (CQ.out _ (hT.below hb2))
    have hk2 := hb2.size
    generalize w1.alloc (.cells #[.slice ao L.length cap, .bool nt] 51) = w2 at *
    generalize w1.heap.size = x0 at *
    have hxn : w.heap.size ≤ x0 := hk1
    have hx2l : x0 < w2.heap.size := (Array.getElem?_eq_some_iff.1 hx2).1
    clear hk1 hb1 CQ
    go_wp2_with fail
    refine CQ2.out.mono ?_
    rintro e w3 ⟨hb3, h⟩
    have hx3 := (hb3.block _ hx2l).trans hx2
    have ho3 := owns_below ho2 hb3
    have hb13 := chain hb2 hb3
    have hk23 := hb3.size
    clear hx2 ho2 hb3 hb2 CQ2
    have hk3 := hb13.size
    rcases h with ⟨hR0, ao2, n2, cp2, nb2, rfl⟩ | ⟨M, nt2, hR2, ao2, cap2, rfl, hown2⟩
    · have HB4 := Lib.hid (hb13.alloc hk3 (.cells #[.slice ao2 n2 cp2, .bool nb2] 51))
      go_wp2
      go_ret3
      exact MapPost.open HB4.out rfl
    have hb4 := hb13.alloc hk3 (.cells #[.slice ao2 M.length cap2, .bool nt2] 51)
    have hx4 : (w3.alloc (.cells #[.slice ao2 M.length cap2, .bool nt2] 51)).heap[x0]? = some (.cells #[.slice ao L.length cap, .bool nt] 51 (0, 0)) := (alloc_old w3 _ _ (by omega)).trans hx3
    have ho4 := World.ownsRow.alloc ho3 (.cells #[.slice ao2 M.length cap2, .bool nt2] 51)
    have hy4 := heap_alloc_new w3 (.cells #[.slice ao2 M.length cap2, .bool nt2] 51)
    have hp4 := World.ownsRow.alloc hown2 (.cells #[.slice ao2 M.length cap2, .bool nt2] 51)
    obtain ⟨hml, hmne⟩ := HL2.out M nt2 hR2
    have HRM := Lib.hid hR2
    have HMNE := Lib.hid hmne
    clear hR2 hown2 ho3 hx3 hmne HL2
    go_upto_region 3 with fail
    generalize w3.alloc (.cells #[.slice ao2 M.length cap2, .bool nt2] 51) = w4 at *
    generalize w3.heap.size = x1 at *
    have hx0l : x0 < w4.heap.size := (Array.getElem?_eq_some_iff.1 hx4).1
    have hx1l : x1 < w4.heap.size := (Array.getElem?_eq_some_iff.1 hy4).1
    have c0 : w4.cell? ⟨x0, 0, none⟩ = some (.slice ao L.length cap) := by simp [World.cell?, hx4]
    have c1 : w4.cell? ⟨x0, 1, none⟩ = some (.bool nt) := by simp [World.cell?, hx4]
    have c2 : w4.cell? ⟨x1, 0, none⟩ = some (.slice ao2 M.length cap2) := by simp [World.cell?, hy4]
    have c3 : w4.cell? ⟨x1, 1, none⟩ = some (.bool nt2) := by simp [World.cell?, hy4]
    have HO := Lib.hid ho4
    have HP := Lib.hid hp4
    have HB := Lib.hid hb4
    clear hx4 hy4 ho4 hp4 hb4 hb13 hk3 hk23 hx2l
    cases hqe : q.toList.isEmpty with
    | true =>
      go_wp2
      go_ret3
      exact MapPost.open HB.out rfl
    | false =>
    have hmne := HMNE.out hqe
    have HQE := Lib.hid hqe
    have hmp : 0 < M.length := List.length_pos_iff.2 hmne
    obtain ⟨gb, _, hgb⟩ := owns_some HP.out hmp
    subst hgb
    clear hmne HMNE
    cases nt with
    | true =>
      by_cases hm1 : M.length = 1
      · have hmb : ((M.length : Int) != 1) = false := by simp; omega
        have cm : w4.cell? ⟨gb, 0, none⟩ = some (.int .i32 (nth (cast M) 0)) := by
          rw [World.ownsRow.cellAt HP.out 0 (by omega), cells_get]
          have hx := List.getElem?_eq_getElem hmp
          rw [hx, nth_cast M 0 _ (by rw [show min 0 (M.length - 1) = 0 by omega]; exact hx)]
          rfl
        have cH := has_any L true ao cap w.heap.size c w4 (by omega) HO.out
        obtain ⟨b, hb⟩ : ∃ b, inS L true c = b := ⟨_, rfl⟩
        rw [hb] at cH
        have CH := Lib.hid cH
        have HIN := Lib.hid hb
        have HM1 := Lib.hid hm1
        obtain ⟨m0, hm0⟩ : ∃ m0, nth (cast M) 0 = m0 := ⟨_, rfl⟩
        rw [hm0] at cm
        have HM0 := Lib.hid hm0
        clear cH hb hm1 hm0
        go_wp2_with fail
        refine CH.out.mono ?_
        rintro e w5 ⟨rfl, hb5⟩
        have d2 := (hb5.cell (p := ⟨x1, 0, none⟩) hx1l).trans c2
        have hgl : gb < w4.heap.size := World.block_lt_of_cell? w4 _ cm
        have dm := (hb5.cell (p := ⟨gb, 0, none⟩) hgl).trans cm
        have hs5 := hb5.size
        have HB5 := Lib.hid (chain HB.out hb5)
        clear hb5 c0 c1 c2 c3 cm CH hgl
        cases b with
        | true =>
          go_wp2
          go_ret3
          exact ⟨HB5.out, m0, true, 1, rfl, fun _ => ⟨HQE.out, L, true, M, nt2, HRR.out, HRM.out, .inl ⟨rfl, HM1.out, HIN.out.symm, by rw [HM0.out]; rfl⟩⟩⟩
        | false =>
          go_wp2
          go_ret3
          exact ⟨HB5.out, c, false, 1, rfl, fun _ => ⟨HQE.out, L, true, M, nt2, HRR.out, HRM.out, .inl ⟨rfl, HM1.out, HIN.out.symm, rfl⟩⟩⟩
      · have hmb : ((M.length : Int) != 1) = true := by rw [bne_iff_ne]; omega
        clear hm1
        go_wp2
        go_ret3
        exact MapPost.open HB.out rfl
    | false =>
      go_upto_region 11 with fail
      go_loopg [13, 14, 62] (L.length + 1) (fun gk ov fv i wr => ∃ (k : Nat) (out : Int) (fnd : Bool), ov = .int .i32 out ∧ fv = .bool fnd ∧ i = .int .i64 k ∧ k ≤ L.length ∧ L.length - k < gk ∧ Hid (fnd = (L.take k).any (· == c)) ∧ Hid (fnd = false → out = (c : Int)) ∧ Hid (fnd = true → ∀ i, i < k → L[i]? = some c → out = nth (cast M) i) ∧ wr = w4)
      case atStart => exact ⟨0, c, false, rfl, rfl, rfl, by omega, by omega, rfl, fun _ => rfl, fun h => (by cases h), rfl⟩
      case round =>
        obtain ⟨k, out, fnd, rfl, rfl, rfl, hk, hg, HF, HN, HV, hwr⟩ := hrel
        obtain rfl := hwr.symm
        obtain ⟨gk, rfl⟩ : ∃ m, gk = m + 1 := ⟨gk - 1, by omega⟩
        by_cases hlt : k < L.length
        · have hpos : 0 < L.length := by omega
          obtain ⟨ga, _, hga⟩ := owns_some HO.out hpos
          subst hga
          have hx := List.getElem?_eq_getElem hlt
          generalize L[k] = x at hx
          have cx : w4.cell? ⟨ga, k, none⟩ = some (.int .i32 ((x : Nat) : Int)) := by
            rw [World.ownsRow.cellAt HO.out _ (by omega), cells_get, hx]; rfl
          have hat := any_take L c k x hx
          by_cases hxc : x = c
          · subst hxc
            have hi : min k (M.length - 1) < M.length := by omega
            have hy := List.getElem?_eq_getElem hi
            generalize M[min k (M.length - 1)] = y at hy
            have hny := nth_cast M k y hy
            obtain ⟨j, hj⟩ : ∃ j, min k (M.length - 1) = j := ⟨_, rfl⟩
            rw [hj] at hy hi
            have cy : w4.cell? ⟨gb, j, none⟩ = some (.int .i32 ((y : Nat) : Int)) := by
              rw [World.ownsRow.cellAt HP.out _ (by omega), cells_get, hy]; rfl
            have hw1 : IntKind.i64.wrap ((M.length : Int) - 1) = (M.length : Int) - 1 := IntWalk.i64_in _ (by omega)
            have HF2 : Hid (true = (L.take (k + 1)).any (· == x)) := by show _ = _; rw [hat]; simp
            have HNY := Lib.hid hny
            have HX := Lib.hid hx
            have he : ((x : Int) != (x : Int)) = false := by simp
            clear hat hx hny hy
            have hjm : (min (k : Int) ((M.length : Int) - 1)).toNat = j := by rw [← hj]; omega
            have hj0 : (0 : Int) ≤ min (k : Int) ((M.length : Int) - 1) := by omega
            have hj1 : (0 : Int) ≤ (M.length : Int) - 1 := by omega
            have hj2 : min (k : Int) ((M.length : Int) - 1) < (M.length : Int) := by omega
            have hj3 : 1 ≤ M.length := by omega
            have HJ := Lib.hid hj
            clear hj
            cases hfb : fnd with
            | false =>
              have HV2 : Hid (true = true → ∀ i, i < k + 1 → L[i]? = some x → (y : Int) = nth (cast M) i) := by
                intro _ i hi hc
                by_cases e : i = k
                · subst e; exact HNY.out.symm
                · have hin : (L.take k).any (· == x) = true := by
                    rw [List.any_eq_true]
                    refine ⟨x, ?_, by simp⟩
                    exact List.mem_of_getElem? (i := i) (by rw [List.getElem?_take_of_lt (by omega)]; exact hc)
                  have h := HF.out
                  rw [hfb, hin] at h
                  cases h
              subst hfb
              clear HF HN HV
              go_wp2
              go_roundg gk
              case rel => exact ⟨k + 1, y, true, rfl, rfl, by go_num, by omega, by omega, HF2.out, fun h => (by cases h), fun _ => HV2.out trivial, rfl⟩
              case measure => omega
            | true =>
              by_cases hyo : (y : Int) = out
              · have HV2 : Hid (true = true → ∀ i, i < k + 1 → L[i]? = some x → (y : Int) = nth (cast M) i) := by
                  intro _ i hi hc
                  by_cases e : i = k
                  · subst e; exact HNY.out.symm
                  · rw [hyo]; exact HV.out hfb i (by omega) hc
                subst hfb; subst hyo
                clear HF HN HV
                have hyy : ((y : Int) != (y : Int)) = false := by simp
                go_wp2
                go_roundg gk
                case rel => exact ⟨k + 1, y, true, rfl, rfl, by go_num, by omega, by omega, HF2.out, fun h => (by cases h), fun _ => HV2.out trivial, rfl⟩
                case measure => omega
              · have hyy : ((y : Int) != out) = true := by rw [bne_iff_ne]; exact hyo
                subst hfb
                clear HF HN HV hyo
                go_wp2
                go_ret3
                exact MapPost.open HB.out rfl
          · have HF2 : Hid (fnd = (L.take (k + 1)).any (· == c)) := by show _ = _; rw [hat, beq_eq_false_iff_ne.2 hxc, Bool.or_false]; exact HF.out
            have he : ((x : Int) != (c : Int)) = true := by rw [bne_iff_ne]; omega
            have HV2 : Hid (fnd = true → ∀ i, i < k + 1 → L[i]? = some c → out = nth (cast M) i) := by
              intro h i hi hc
              by_cases e : i = k
              · subst e; rw [hx] at hc; cases hc; exact absurd rfl hxc
              · exact HV.out h i (by omega) hc
            clear hat hxc hx
            go_wp2
            go_roundg gk
            case rel => exact ⟨k + 1, out, fnd, rfl, rfl, by go_num, by omega, by omega, HF2.out, HN.out, HV2.out, rfl⟩
            case measure => omega
        · have hall : L.take k = L := List.take_of_length_le (by omega)
          have HF2 : Hid (fnd = inS L false c) := by
            show _ = _
            rw [HF.out, hall]; unfold inS; simp
          have HV2 : Hid (fnd = true → ∀ i, L[i]? = some c → out = nth (cast M) i) := fun h i hc => HV.out h i (by have := (List.getElem?_eq_some_iff.1 hc).1; omega) hc
          clear hall
          go_wp2
          go_ret3
          exact ⟨HB.out, out, fnd, 1, rfl, fun _ => ⟨HQE.out, L, false, M, nt2, HRR.out, HRM.out, .inr ⟨rfl, HF2.out, HN.out, HV2.out⟩⟩⟩

end Go.Proofs.YtbomlhhpokknaaaDoor
