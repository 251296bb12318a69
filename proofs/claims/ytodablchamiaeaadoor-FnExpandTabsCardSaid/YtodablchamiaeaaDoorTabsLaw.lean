/- The law FnExpandTabs: its walk. -/
import Derived.Recover
import Derived.Test.YtodablchamiaeaaDoorTabs
import Derived.Test.YtodablchamiaeaaDoorScrubLaw
namespace Go.Proofs.YtodablchamiaeaaDoor
open Go.RowKit U8
open Go.Lib hiding intOf

theorem tabs_idle (p q : Addr) (w : World) :
    CallsD Tryd.prog 66 #[.pointer (some p), .pointer (some q)] .returning w fun e u' w' => e = .returned (.tuple #[]) ∧ u' = .returning ∧ w' = w := by
  refine callsD_of_wpS Tryd.func66 rfl fun c₀ cs hu => ?_
  apply wpS_seq
  apply wpS_region
  simp [wpOpsS, go_sem, recoverD, hu, Tryd.ntmps66, Exit.thenS]
  refine wpS_cond (t := false) (by simp [Act.eval, Array.replicate]) ?_
  simp only [Bool.false_eq_true, if_false]
  refine wpS_of_wp (wp_skip ?_)
  cases c₀
  simp_all [bodyPostS, results, Tryd.results66]
theorem implTabs_of (s r : ByteArray) (i : Int) (w : World)
    (h : ∀ W : World, Below w.heap.size w W → Calls Tryd.prog 67 #[.string s, .int .i64 i] W fun e w' => e = .returned (.string r) ∧ Below W.heap.size W w') :
    Calls Tryd.prog 42 #[.string s, .int .i64 i] w fun e w' => e = .returned (.tuple #[.string r, .bool true]) ∧ Below w.heap.size w w' := by
  have hmf : ∀ (fn : Fn) (first cap : Array Value) (w : World), (Instr.makeFunc fn first cap).run Tryd.prog w = .ok (.func fn first cap) w := fun _ _ _ _ => rfl
  have HH := Lib.hid h
  clear h
  go_enter_defers Tryd.func42, Tryd.ntmps42
  go_wp2_with fail
  refine (HH.out _ (((Below.refl _ _).alloc (Nat.le_refl _) _).alloc (by simp) _)).mono ?_
  rintro e W1 ⟨rfl, hb1⟩
  have hz := hb1.size
  simp only [World.size_alloc] at hz
  have hbw : Below w.heap.size w W1 := (((Below.refl _ _).alloc (Nat.le_refl _) _).alloc (by simp) _).trans (hb1.mono (by simp; omega))
  have c0 : W1.cell? ⟨w.heap.size, 0, none⟩ = some (.string ⟨#[]⟩) := by
    rw [hb1.cell (by simp; omega)]; simp [go_sem]
  have c1 : W1.cell? ⟨w.heap.size + 1, 0, none⟩ = some (.bool false) := by
    rw [hb1.cell (by simp)]; simp [go_sem]
  have f0 : W1.frozen? ⟨w.heap.size, 0, none⟩ = false := by
    rw [hb1.frozen (by simp; omega)]; simp [go_sem]
  have f1 : W1.frozen? ⟨w.heap.size + 1, 0, none⟩ = false := by
    rw [hb1.frozen (by simp)]; simp [go_sem]
  clear hb1
  go_wp2
  refine leaves_cons (f := 66) (args := #[.pointer (some ⟨w.heap.size, 0, none⟩), .pointer (some ⟨w.heap.size + 1, 0, none⟩)]) (by simp) (by simp [go_sem]) ?_
  refine (tabs_idle ⟨w.heap.size, 0, none⟩ ⟨w.heap.size + 1, 0, none⟩ _).mono ?_
  rintro e u' w'' ⟨rfl, rfl, rfl⟩
  have d0 : ((W1.setCell ⟨w.heap.size, 0, none⟩ (.string r)).setCell ⟨w.heap.size + 1, 0, none⟩ (.bool true)).cell? ⟨w.heap.size, 0, none⟩ = some (.string r) := by
    rw [World.cell?_setCell_other _ _ _ _ (by simp)]
    exact World.cell?_setCell_same _ _ _ c0
  have d1 : ((W1.setCell ⟨w.heap.size, 0, none⟩ (.string r)).setCell ⟨w.heap.size + 1, 0, none⟩ (.bool true)).cell? ⟨w.heap.size + 1, 0, none⟩ = some (.bool true) := by
    have h1 : (W1.setCell ⟨w.heap.size, 0, none⟩ (.string r)).cell? ⟨w.heap.size + 1, 0, none⟩ = some (.bool false) := by
      rw [World.cell?_setCell_other _ _ _ _ (by simp)]
      exact c1
    exact World.cell?_setCell_same _ _ _ h1
  have hfin : Below w.heap.size w ((W1.setCell ⟨w.heap.size, 0, none⟩ (.string r)).setCell ⟨w.heap.size + 1, 0, none⟩ (.bool true)) :=
    (hbw.setCell (p := ⟨w.heap.size, 0, none⟩) (Nat.le_refl _) _).setCell (p := ⟨w.heap.size + 1, 0, none⟩) (Nat.le_succ _) _
  simp [Leaves, settle, results, Tryd.results42, go_sem, d0, d1]
  exact hfin


theorem tabs_panics (s : ByteArray) (z : Int) (w : World) (hz : z ≤ 0) :
    Calls Tryd.prog 67 #[.string s, .int .i64 z] w fun e w' => (∃ u pv, e = .panicked [{ v := .iface u pv, recovered := false }]) ∧ w' = w := by
  go_enter Tryd.func67, Tryd.ntmps67
  go_wp2
  simp [bodyPost]

theorem tabs_caught (p q : Addr) (u : TypeId) (pv a b : Value) (older : List PanicEntry) (w : World) (hc : w.cell? p = some a) (hz : w.frozen? p = false) (hc2 : w.cell? q = some b) (hz2 : w.frozen? q = false) (hpq : p ≠ q) :
    CallsD Tryd.prog 66 #[.pointer (some p), .pointer (some q)] (.panicking ({ v := .iface u pv, recovered := false } :: older)) w fun e u' w' =>
      e = .returned (.tuple #[]) ∧ u' = .panicking ({ v := .iface u pv, recovered := true } :: older) ∧ w' = (w.setCell p (.string ⟨#[]⟩)).setCell q (.bool false) := by
  refine callsD_of_wpS Tryd.func66 rfl fun c₀ cs hu => ?_
  apply wpS_seq
  apply wpS_region
  simp [wpOpsS, go_sem, recoverD, hu, Tryd.ntmps66, Exit.thenS]
  refine wpS_cond (t := true) (by simp [Act.eval, Array.replicate]) ?_
  simp only [if_true]
  apply wpS_region
  have e1 : (w.setCell p (.string ⟨#[]⟩)).cell? q = some b := by
    rw [World.cell?_setCell_other _ _ _ _ hpq]; exact hc2
  have e2 : (w.setCell p (.string ⟨#[]⟩)).frozen? q = false := by
    rw [World.frozen?_setCell]; exact hz2
  simp [wpOpsS, go_sem, hc, hz, e1, e2, bodyPostS, results, Tryd.results66]

theorem implTabs_no (s : ByteArray) (i : Int) (w : World) (hi : i ≤ 0) :
    Calls Tryd.prog 42 #[.string s, .int .i64 i] w fun e w' => e = .returned (.tuple #[.string ⟨#[]⟩, .bool false]) ∧ Below w.heap.size w w' := by
  have hmf : ∀ (fn : Fn) (first cap : Array Value) (w : World), (Instr.makeFunc fn first cap).run Tryd.prog w = .ok (.func fn first cap) w := fun _ _ _ _ => rfl
  go_enter_defers Tryd.func42, Tryd.ntmps42
  go_wp2_with fail
  refine (tabs_panics s i _ hi).mono ?_
  rintro e W1 ⟨⟨u, pv, rfl⟩, rfl⟩
  go_wp2
  refine leaves_cons (f := 66) (args := #[.pointer (some ⟨w.heap.size, 0, none⟩), .pointer (some ⟨w.heap.size + 1, 0, none⟩)]) (by simp) (by simp [go_sem]) ?_
  have hfin := ((Below.refl w.heap.size w).alloc (Nat.le_refl _) (.cells #[.string ⟨#[]⟩] 9)).alloc (by simp) (.cells #[.bool false] 4)
  refine (tabs_caught ⟨w.heap.size, 0, none⟩ ⟨w.heap.size + 1, 0, none⟩ u pv (.string ⟨#[]⟩) (.bool false) [] _ ?_ ?_ ?_ ?_ (by simp)).mono ?_
  · simp [go_sem]
  · simp [go_sem]
  · simp [go_sem]
  · simp [go_sem]
  rintro e u' w'' ⟨rfl, rfl, rfl⟩
  simp [Leaves, settle, results, Tryd.results42, go_sem]
  exact hfin
theorem implTabs_yes (rs : List Nat) (z : Nat) (w : World) (hs : Scs rs) (hl : (enc rs).length ≤ 500) (hz : 1 ≤ z) (hz2 : z ≤ 100) (hT : Tabs w) :
    Calls Tryd.prog 42 #[.string (txt (enc rs)), .int .i64 z] w fun e w' => e = .returned (.tuple #[.string (txt (enc (tb z 0 rs))), .bool true]) ∧ Below w.heap.size w w' :=
  implTabs_of _ _ _ w fun W hb => tabs_any rs z W hs hl hz hz2 (hT.below hb)
theorem tabs_ab (w : World) (hT : Tabs w) :
    Calls Tryd.prog 42 #[.string ⟨#[97, 9, 98, 99]⟩, .int .i64 4] w fun e w' => e = .returned (.tuple #[.string ⟨#[97, 32, 32, 32, 98, 99]⟩, .bool true]) ∧ Below w.heap.size w w' :=
  implTabs_yes [97, 9, 98, 99] 4 w (by decide) (by decide) (by decide) (by decide) hT

set_option maxHeartbeats 1600000 in
set_option maxRecDepth 100000 in
theorem lawTabs_any (rs : List Nat) (z : Nat) (w : World) (hs : Scs rs) (hl : (enc rs).length ≤ 500) (hz : 1 ≤ z) (hz2 : z ≤ 100) :
    Calls Tryd.prog 43 #[.string (txt (enc rs)), .int .i64 z] w fun e w' => e = .returned (.string (txt (enc (tb z 0 rs)))) ∧ Below w.heap.size w w' := by
  have hrl := enc_length_ge rs
  have hrs5 : rs.length ≤ 500 := by omega
  have hsp1 : ∀ x : List Nat, txt (enc x) ++ ⟨#[32]⟩ = txt (enc (x ++ [32])) := fun x => by rw [enc_append, ← txt_append]; rfl
  have hln1 : ∀ x : List Nat, txt (enc x) ++ ⟨#[10]⟩ = txt (enc (x ++ [10])) := fun x => by rw [enc_append, ← txt_append]; rfl
  have HS := Lib.hid hsp1
  have HL := Lib.hid hln1
  clear hsp1 hln1
  go_enter Tryd.func43, Tryd.ntmps43
  go_wp2
  go_loopg [5, 6] (rs.length + 1) (fun gk out col wr => ∃ (p rest o : List Nat) (c : Nat), Hid (rs = p ++ rest) ∧ wr.heap[w.heap.size]? = some (.stringIter (txt (enc rs)) (enc p).length) ∧ out = .string (txt (enc o)) ∧ col = .int .i64 c ∧ rest.length < gk ∧ c ≤ 100 * p.length ∧ Scs rest ∧ Hid (tb z 0 rs = o ++ tb z c rest) ∧ o.length ≤ 100 * p.length ∧ Below w.heap.size w wr)
  case atStart => exact ⟨[], rs, [], 0, rfl, World.iter_heap _ _ _, rfl, rfl, by omega, by simp, hs, rfl, by simp, (Below.refl _ _).alloc (Nat.le_refl _) _⟩
  case round =>
    obtain ⟨p, rest, o, c, HR, hit, rfl, rfl, hg, hcl, hsc, hinv, hol, hb⟩ := hrel
    have hsz : w.heap.size < wr.heap.size := (Array.getElem?_eq_some_iff.1 hit).1
    have hpr : p.length + rest.length ≤ 500 := by have h := congrArg List.length HR.out; rw [List.length_append] at h; omega
    cases rest with
    | nil =>
      have hp : ¬ (enc p).length < (txt (enc rs)).size := by rw [HR.out, List.append_nil, txt_size]; omega
      have hnx : ∀ ty, (Instr.next (.pointer (some ⟨w.heap.size, 0, none⟩)) true ty).run Tryd.prog wr = _ := fun ty => run_next_end_at wr w.heap.size _ _ ty hit hp
      clear hp
      go_wp2
      go_ret
      have e := hinv.out
      rw [tb_nil, List.append_nil] at e
      exact ⟨by rw [e]; rfl, hb⟩
    | cons r rest =>
      have hr : Sc r := hsc.head
      have hri := hr.i32
      rw [List.length_cons] at hg hpr
      obtain ⟨g0, rfl⟩ : ∃ m, gk = m + 1 := ⟨gk - 1, by omega⟩
      have hnx : ∀ ty, (Instr.next (.pointer (some ⟨w.heap.size, 0, none⟩)) true ty).run Tryd.prog wr = .ok (.tuple #[.bool true, .int .i64 (enc p).length, .int .i32 r]) (wr.iterAt w.heap.size (txt (enc rs)) (enc (p ++ [r])).length) := fun ty => by
        have hp : (enc p).length < (txt (enc rs)).size := by
          have := enc1_pos r
          rw [HR.out, txt_size, enc_append, List.length_append, enc_cons, List.length_append]; omega
        rw [run_next_any_at wr w.heap.size _ _ ty hit hp, enc_append p [r], List.length_append, enc_one]
        rw [HR.out, decode_txt p rest r hr]
      have hit2 := iterAt_heap wr w.heap.size (txt (enc rs)) _ (enc (p ++ [r])).length hit
      have hb2 := below_iterAt hb (k := w.heap.size) (Nat.le_refl _) (txt (enc rs)) (enc (p ++ [r])).length
      have hsz2 : w.heap.size < (wr.iterAt w.heap.size (txt (enc rs)) (enc (p ++ [r])).length).heap.size := by rw [iterAt_size]; exact hsz
      generalize wr.iterAt w.heap.size (txt (enc rs)) (enc (p ++ [r])).length = wi at *
      clear hit hb hsz
      have hoe := enc_le4 o
      by_cases h9 : r = 9
      · subst h9
        obtain ⟨e, he⟩ : ∃ e, z - c % z = e := ⟨_, rfl⟩
        have hmz : c % z < z := Nat.mod_lt _ (by omega)
        have HE := Lib.hid he
        have hst := Lib.hid fun k (h1 : 1 ≤ k) (h2 : k ≤ e) => stop_step c z k hz h1 (by omega)
        have he1 : 1 ≤ e := by omega
        have he2 : e ≤ 100 := by omega
        have hcat : (txt (enc o)).size + (⟨#[32]⟩ : ByteArray).size ≤ 10000000 := by rw [txt_size]; show _ + 1 ≤ _; omega
        have happ := HS.out o
        clear he hmz
        go_wp2
        go_loopg [5, 6] (e + 1) (fun gk out col w2 => ∃ k C : Nat, 1 ≤ k ∧ k ≤ e ∧ C = c + k ∧ out = .string (txt (enc (o ++ List.replicate k 32))) ∧ col = .int .i64 C ∧ e - k < gk ∧ w2 = wi)
        case atStart => exact ⟨1, c + 1, by omega, he1, rfl, rfl, by go_num, by omega, rfl⟩
        case round =>
          obtain ⟨k, C, hk1, hke, hC, rfl, rfl, hg2, rfl⟩ := hrel
          obtain ⟨q, hq⟩ : ∃ q, C % z = q := ⟨_, rfl⟩
          have hqi : (C : Int) % (z : Int) = (q : Int) := by rw [← hq]; rfl
          have hst2 := hst.out k hk1 hke
          rw [← hC, hq] at hst2
          clear hq
          have hC2 : C ≤ 60000 := by omega
          have HCC := Lib.hid hC
          clear hC
          by_cases hkk : k = e
          · have hq0 : q = 0 := hst2.2 (by rw [hkk]; exact HE.out.symm)
            have hq1 : ((q : Int) != 0) = false := by simp [hq0]
            have HKK := Lib.hid hkk
            clear hst2 hq0 hkk
            go_wp2
            have hC := HCC.out
            have hkk := HKK.out
            go_roundg g0
            case rel =>
              refine ⟨p ++ [9], rest, o ++ List.replicate k 32, C, ?_, hit2, rfl, rfl, by omega, by rw [List.length_append, List.length_singleton]; omega, hsc.tail, ?_, by rw [List.length_append, List.length_replicate, List.length_append, List.length_singleton]; omega, hb2⟩
              · show _ = _
                rw [HR.out]; simp
              · show _ = _
                rw [hinv.out, tb_tab, HE.out, hC, hkk]; simp
            case measure => omega
          · have hq0 : ¬ q = 0 := fun h => hkk (by have := hst2.1 h; rw [HE.out] at this; exact this)
            have hq1 : ((q : Int) != 0) = true := by simp [hq0]
            obtain ⟨gk, rfl⟩ : ∃ m, gk = m + 1 := ⟨gk - 1, by omega⟩
            have hcat2 : (txt (enc (o ++ List.replicate k 32))).size + (⟨#[32]⟩ : ByteArray).size ≤ 10000000 := by
              have h := enc_le4 (o ++ List.replicate k 32)
              rw [List.length_append, List.length_replicate] at h
              rw [txt_size]; show _ + 1 ≤ _; omega
            have happ2 := HS.out (o ++ List.replicate k 32)
            clear hst2 hcat happ hq0
            go_wp2
            have hC := HCC.out
            go_roundg gk
            case rel =>
              refine ⟨k + 1, C + 1, by omega, by omega, by omega, ?_, by go_num, by omega, rfl⟩
              rw [List.replicate_succ', ← List.append_assoc]
            case measure => omega
      · have h9i : ((r : Int) == 9) = false := by simp; omega
        by_cases h10 : r = 10
        · subst h10
          have hcat : (txt (enc o)).size + (⟨#[10]⟩ : ByteArray).size ≤ 10000000 := by rw [txt_size]; show _ + 1 ≤ _; omega
          have happ := HL.out o
          go_wp2
          go_roundg g0
          case rel =>
            refine ⟨p ++ [10], rest, o ++ [10], 0, ?_, hit2, rfl, by go_num, by omega, by omega, hsc.tail, ?_, by rw [List.length_append, List.length_singleton, List.length_append, List.length_singleton]; omega, hb2⟩
            · show _ = _
              rw [HR.out]; simp
            · show _ = _
              rw [hinv.out, tb_line]; simp
          case measure => omega
        · have h10i : ((r : Int) == 10) = false := by simp; omega
          have hwi := widN_int r
          have hwb := widN_le r
          have cW := Lib.hid fun W => hwi ▸ implRuneWidth_any r W hri.1 hri.2
          have HT := Lib.hid (tb_other z c r rest h9 h10)
          have hconv := run_one_text r hr wi
          have hr4 := enc1_le r
          have hcat : (txt (enc o)).size + (txt (enc1 r)).size ≤ 10000000 := by rw [txt_size, txt_size]; omega
          have happ : txt (enc o) ++ txt (enc1 r) = txt (enc (o ++ [r])) := by rw [txt_append, enc_append, enc_one]
          clear hwi
          generalize widN r = n at *
          go_wp2_with (go_at_call 25; refine (cW.out _).mono ?_; rintro e w2 ⟨rfl, rfl⟩)
          go_roundg g0
          case rel =>
            refine ⟨p ++ [r], rest, o ++ [r], c + n, ?_, ?_, rfl, by go_num, by omega, by rw [List.length_append, List.length_singleton]; omega, hsc.tail, ?_, by rw [List.length_append, List.length_singleton, List.length_append, List.length_singleton]; omega, hb2.alloc hb2.size _⟩
            · show _ = _
              rw [HR.out]; simp
            · rw [alloc_old wi _ _ hsz2]; exact hit2
            · show _ = _
              rw [hinv.out, HT.out]; simp
          case measure => omega

set_option maxHeartbeats 3200000 in
set_option maxRecDepth 100000 in
theorem law_expandTabs (s : ByteArray) (n : Int) (w : World) (hsz : s.size ≤ 140737488351232) (_hn0 : -9223372036854775808 ≤ n) (_hn1 : n ≤ 9223372036854775807) (hT : Tabs w) :
    Calls Tryd.prog 14 #[.string s, .int .i64 n] w fun e w' => e = .returned (.bool true) ∧ Below w.heap.size w w' := by
  by_cases hbig : 2147483647 < s.size
  · go_enter Tryd.func14, Tryd.ntmps14
    go_wp2
    go_ret
    exact ⟨rfl, Below.refl _ _⟩
  have hle : s.size ≤ 2147483647 := by omega
  clear hbig hsz
  rcases ok_cases s with hok | ⟨rs, hs, rfl, hlen, hok⟩
  · go_enter Tryd.func14, Tryd.ntmps14
    go_wp2_with fail
    refine (tabs_ab _ hT).mono ?_
    rintro e w1 ⟨rfl, hb1⟩
    go_wp2_with fail
    refine (valid_no s _ hle hok (hT.below hb1)).mono ?_
    rintro e w2 ⟨rfl, hb2⟩
    go_wp2
    go_ret
    exact ⟨rfl, chain hb1 hb2⟩
  have HV := Lib.hid fun W (h : Tabs W) => valid_yes rs W hlen hok h
  clear hok
  by_cases hn : 100 < n
  · go_enter Tryd.func14, Tryd.ntmps14
    go_wp2_with fail
    refine (tabs_ab _ hT).mono ?_
    rintro e w1 ⟨rfl, hb1⟩
    go_wp2_with fail
    refine (HV.out _ (hT.below hb1)).mono ?_
    rintro e w2 ⟨rfl, hb2⟩
    go_wp2_with go_in
    go_ret
    exact ⟨rfl, chain hb1 hb2⟩
  by_cases hs5 : 500 < (txt (enc rs)).size
  · go_enter Tryd.func14, Tryd.ntmps14
    go_wp2_with fail
    refine (tabs_ab _ hT).mono ?_
    rintro e w1 ⟨rfl, hb1⟩
    go_wp2_with fail
    refine (HV.out _ (hT.below hb1)).mono ?_
    rintro e w2 ⟨rfl, hb2⟩
    go_wp2_with go_in
    go_ret
    exact ⟨rfl, chain hb1 hb2⟩
  have hl5 : (enc rs).length ≤ 500 := by rw [txt_size] at hs5; omega
  by_cases hn0 : n ≤ 0
  · go_enter Tryd.func14, Tryd.ntmps14
    go_wp2_with fail
    refine (tabs_ab _ hT).mono ?_
    rintro e w1 ⟨rfl, hb1⟩
    go_wp2_with fail
    refine (HV.out _ (hT.below hb1)).mono ?_
    rintro e w2 ⟨rfl, hb2⟩
    have hc2 := chain hb1 hb2
    go_wp2_with (go_at_call 42; refine (implTabs_no _ n _ hn0).mono ?_; rintro e w3 ⟨rfl, hb3⟩)
    go_ret
    exact ⟨rfl, chain hc2 hb3⟩
  obtain ⟨z, rfl⟩ : ∃ z : Nat, n = z := ⟨n.toNat, by omega⟩
  have hz1 : 1 ≤ z := by omega
  have hz2 : z ≤ 100 := by omega
  have cI := Lib.hid fun W (h : Tabs W) => implTabs_yes rs z W hs hl5 hz1 hz2 h
  have cL := Lib.hid fun W => lawTabs_any rs z W hs hl5 hz1 hz2
  go_enter Tryd.func14, Tryd.ntmps14
  go_wp2_with fail
  refine (tabs_ab _ hT).mono ?_
  rintro e w1 ⟨rfl, hb1⟩
  go_wp2_with fail
  refine (HV.out _ (hT.below hb1)).mono ?_
  rintro e w2 ⟨rfl, hb2⟩
  have hc2 := chain hb1 hb2
  go_wp2_with (first
    | (go_at_call 42; refine (cI.out _ (hT.below hc2)).mono ?_; rintro e w3 ⟨rfl, hb3⟩)
    | (go_at_call 43; refine (cL.out _).mono ?_; rintro e w4 ⟨rfl, hb4⟩)
    | go_in)
  go_ret
  exact ⟨by simp, chain (chain hc2 hb3) hb4⟩

end Go.Proofs.YtodablchamiaeaaDoor
