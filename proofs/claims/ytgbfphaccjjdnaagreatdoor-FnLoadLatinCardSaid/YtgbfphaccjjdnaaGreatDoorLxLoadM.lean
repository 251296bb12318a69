/- Plain: the properties of a text with expansion. No program is in sight. The expanding half of properties: check, Get. Condition: expansion's plain form ends. impl.LoadProps with expansion. Conditions: the text's length; expansion's plain form ends. laws.loads: the example. -/
import Derived.Test.YtgbfphaccjjdnaaGreatDoorLxExpand
import Derived.Test.YtgbfphaccjjdnaaGreatDoorLxFullA
import Derived.Test.YtgbfphaccjjdnaaGreatDoorLxNotesP
namespace Go.Proofs.YtgbfphaccjjdnaaGreatDoor
open Go.RowKit U8
open Go.Lib hiding intOf

def exB : Res → Bool
  | some (some _) => true
  | _ => false
def exV : Res → List UInt8
  | some (some r) => r
  | _ => []
/-- The properties of a text, with expansion; none: an error. -/
def fullR (N d : Nat) (T : List UInt8) : Option (List PropA) := (parseM (lexT T) [] [] []).bind fun r =>
  if r.1.all (fun p => exB (exD r.1 N d [p.1] p.2)) then some (r.1.map (mkP (fun p => exV (exD r.1 N d [p.1] p.2)) r.2)) else none
/-- Expansion ends for each value of a text. -/
def EndsT (N d : Nat) (T : List UInt8) : Prop := ∀ kv cs, parseM (lexT T) [] [] [] = some (kv, cs) → ∀ p ∈ kv, exD kv N d [p.1] p.2 ≠ none

/-- What check tells. -/
def CheckP (N d : Nat) (kv : KV2) (W : World) (e : Ending) (w' : World) : Prop := Below W.heap.size W w' ∧
  ((e = .returned .nilIface ∧ ∀ p ∈ kv, ∃ r, exD kv N d [p.1] p.2 = some (some r)) ∨ ∃ a, e = .returned (.iface 104 (.pointer (some ⟨a, 0, none⟩))) ∧ ∃ p ∈ kv, exD kv N d [p.1] p.2 = some none)
set_option maxHeartbeats 3200000 in
set_option maxRecDepth 100000 in
theorem check_any (B b m cb : Nat) (kv : KV2) (cs : CS2) (N : Nat) (hN : N ≤ 1000000) (d : Nat) (W : World) (h : Po B b m cb false kv cs W) (hE : ∀ p ∈ kv, exD kv N d [p.1] p.2 ≠ none) :
    Calls Tryz.prog 33 #[.pointer (some ⟨b, 0, none⟩)] W (CheckP N d kv W) := by
  have HPO := Lib.hid h
  have HE := Lib.hid hE
  obtain ⟨_, _, _, _, vk, vc, ho, hm, hn, _⟩ := h
  rw [kvW_sV] at hm
  have d3 : W.cell? ⟨b, 3, none⟩ = some (.map (some m)) := by simp [World.cell?, ho]
  have HM := Lib.hid hm
  clear ho hm hn hE
  go_enter Tryz.func33, Tryz.ntmps33
  go_wp2_with (at_range; refine wpList_range_mb rfl _ _ rfl 9 9 Tryz.underlying57 m (eV kv) rfl HM.out ?_)
  intro w3 hrg hb3 hs3
  have HRG := Lib.hid hrg
  have HB3 := Lib.hid hb3
  have hws : W.heap.size ≤ W.heap.size := Nat.le_refl _
  clear hrg hb3 hs3 HM d3
  obtain ⟨G, hG⟩ : ∃ G, W.heap.size = G := ⟨_, rfl⟩
  rw [hG] at HRG HB3 hws ⊢
  have HG := Lib.hid hG
  clear hG
  go_wp2
  go_loopg [3, 4, 5, 6] (kv.length + 1) (fun gk v3 v4 v5 v6 wr => ∃ (done rem : KV2), rem.length < gk ∧ Hid (RG G m (eV kv) (eV rem) wr) ∧ Hid ((done ++ rem).Perm kv) ∧ Hid (∀ p ∈ done, ∃ r, exD kv N d [p.1] p.2 = some (some r)) ∧ Hid (Below G W wr))
  case atStart => exact ⟨[], kv, by omega, HRG.out, List.Perm.refl _, (fun p hp => absurd hp (by simp)), HB3.out⟩
  case round =>
    obtain ⟨done, rem, hg, HR, HP, HD, HB⟩ := hrel
    go_wp2_with (at_next; refine wpList_next_mb rfl _ rfl G m (eV kv) (eV rem) rfl HR.out G hws ?_ ?_)
    · intro hrem
      have hr0 : rem = [] := by simpa [eV] using hrem
      subst hr0
      have HALL : Hid (∀ p ∈ kv, ∃ r, exD kv N d [p.1] p.2 = some (some r)) := by
        show ∀ _ _, _
        intro p hp
        have := HP.out
        rw [List.append_nil] at this
        exact HD.out p (this.mem_iff.2 hp)
      clear hrem
      go_wp2
      go_ret
      refine ⟨by rw [HG.out]; exact HB.out, .inl ⟨rfl, HALL.out⟩⟩
    · intro l1 l2 key v w4 hrem hmem hrg4 hb4 hk4 hs4 hen
      obtain ⟨r1, p, r2, rfl, rfl, rfl, rfl, rfl⟩ := eV_split hrem
      have hpk : p ∈ kv := HP.out.mem_iff.1 (by simp)
      have HB4 := Lib.hid (HB.out.trans hb4)
      have HPO4 := Lib.hid (HPO.out.nk (NK.below (by rw [HG.out]; exact HB4.out)))
      have HR4 : Hid (RG G m (eV kv) (eV (r1 ++ r2)) w4) := by
        have e : eV (r1 ++ r2) = eV r1 ++ eV r2 := by simp [eV]
        show RG _ _ _ _ _
        rw [e]
        exact hrg4
      have HP5 : Hid (((done ++ [p]) ++ (r1 ++ r2)).Perm kv) := by
        show List.Perm _ _
        refine List.Perm.trans ?_ HP.out
        rw [List.append_assoc]
        refine List.Perm.append_left done ?_
        show (p :: (r1 ++ r2)).Perm _
        exact List.perm_middle.symm
      have hgs := HB4.out.size
      have hGW : G ≤ w4.heap.size := by rw [← HG.out]; exact hgs
      obtain ⟨gk, rfl⟩ : ∃ m, gk = m + 1 := ⟨gk - 1, by omega⟩
      rw [List.length_append, List.length_cons] at hg
      have HPK := Lib.hid hpk
      cases hx : exD kv N d [p.1] p.2 with
      | none => exact absurd hx (HE.out p hpk)
      | some R =>
      have CX := pexp_any B b m cb kv cs N hN d p.1 p.2 R w4 HPO4.out hx
      have HX := Lib.hid hx
      clear hrem hmem hrg4 hb4 hk4 hs4 HR HP HB hpk hx hgs
      cases R with
      | some r =>
        have CX2 : Hid (Calls Tryz.prog 34 #[.pointer (some ⟨b, 0, none⟩), .string (txt p.1), .string (txt p.2)] w4 fun e w' => e = .returned (.tuple #[.string (txt r), .nilIface]) ∧ Below w4.heap.size w4 w') := CX
        clear CX
        go_wp2_with fail
        refine CX2.out.mono ?_
        rintro e w5 ⟨rfl, hb5⟩
        have HB5 := Lib.hid (HB4.out.trans (hb5.mono hGW))
        have HR5 := Lib.hid (HR4.out.below hb5)
        have HD5 : Hid (∀ q ∈ done ++ [p], ∃ r, exD kv N d [q.1] q.2 = some (some r)) := by
          show ∀ _ _, _
          intro q hq
          rcases List.mem_append.1 hq with hq | hq
          · exact HD.out q hq
          · simp at hq; subst hq; exact ⟨r, HX.out⟩
        have hne := neq_nil_iface w5
        clear hb5 CX2
        go_wp2
        go_roundg gk
        case rel => exact ⟨done ++ [p], r1 ++ r2, by rw [List.length_append]; omega, HR5.out, HP5.out, HD5.out, HB5.out⟩
        case measure => omega
      | none =>
        have CX2 : Hid (Calls Tryz.prog 34 #[.pointer (some ⟨b, 0, none⟩), .string (txt p.1), .string (txt p.2)] w4 fun e w' => (∃ a, e = .returned (.tuple #[.string ⟨#[]⟩, .iface 104 (.pointer (some ⟨a, 0, none⟩))])) ∧ Below w4.heap.size w4 w') := CX
        clear CX
        go_wp2_with fail
        refine CX2.out.mono ?_
        rintro e w5 ⟨⟨a, rfl⟩, hb5⟩
        have HB5 := Lib.hid (HB4.out.trans (hb5.mono hGW))
        have hne := neq_err a w5
        clear hb5 CX2
        go_wp2
        go_ret
        exact ⟨by rw [HG.out]; exact HB5.out, .inr ⟨_, rfl, p, HPK.out, HX.out⟩⟩
/-- Get, with expansion. -/
theorem get_full (B b m cb : Nat) (kv : KV2) (cs : CS2) (N : Nat) (hN : N ≤ 1000000) (d : Nat) (k v r : List UInt8) (W : World) (h : Po B b m cb false kv cs W) (hk : (k, v) ∈ kv) (hr : exD kv N d [k] v = some (some r)) :
    Calls Tryz.prog 27 #[.pointer (some ⟨b, 0, none⟩), .string (txt k)] W fun e w' => e = .returned (.tuple #[.string (txt r), .bool true]) ∧ Below W.heap.size W w' := by
  have C : Hid (Calls Tryz.prog 34 #[.pointer (some ⟨b, 0, none⟩), .string (txt k), .string (txt v)] W fun e w' => e = .returned (.tuple #[.string (txt r), .nilIface]) ∧ Below W.heap.size W w') := pexp_any B b m cb kv cs N hN d k v (some r) W h hr
  obtain ⟨_, _, _, _, vk, vc, ho, hm, hn, _⟩ := h
  have c2 : W.cell? ⟨b, 2, none⟩ = some (.bool false) := by simp [World.cell?, ho]
  have c3 : W.cell? ⟨b, 3, none⟩ = some (.map (some m)) := by simp [World.cell?, ho]
  have hlk := (lookw_hit (P := Tryz.prog) 57 9 9 m (sV kv) k (.string (txt v)) Tryz.underlying57 Tryz.underlying9 hm (by rw [sV_fst]; exact hn) (List.mem_map.2 ⟨(k, v), hk, rfl⟩)).1
  clear hm hn ho hk hr
  go_enter Tryz.func27, Tryz.ntmps27
  go_wp2_with fail
  refine C.out.mono ?_
  rintro e w1 ⟨rfl, hb⟩
  have HB := Lib.hid hb
  have hne := neq_nil_iface w1
  clear hb hlk
  go_wp2
  go_ret2
  exact ⟨rfl, HB.out⟩

/-- What loading a text with expansion hands on. -/
def LoadE (N d : Nat) (w : World) (T : List UInt8) (e : Ending) (w' : World) : Prop := Below w.heap.size w w' ∧
  ((fullR N d T = none ∧ ∃ p t a, e = .returned (.tuple #[.pointer p, .iface t (.pointer a)])) ∨
   ∃ kv cs b m cb, parseM (lexT T) [] [] [] = some (kv, cs) ∧ (∀ p ∈ kv, ∃ r, exD kv N d [p.1] p.2 = some (some r)) ∧ e = .returned (.tuple #[.pointer (some ⟨b, 0, none⟩), .nilIface]) ∧ Po w.heap.size b m cb false kv cs w')
set_option maxHeartbeats 3200000 in
set_option maxRecDepth 100000 in
theorem loadB_full (N : Nat) (hN : N ≤ 1000000) (d : Nat) (L : Nat) (v : Value) (l : List UInt8) (enc : Int) (w : World) (h : Bs w v l) (he : enc = 0 ∨ enc = 1) (hT : Tabs w) (hl : l.length ≤ 50000) (hL1 : w.cell? ⟨L, 1, none⟩ = some (.bool false)) (hE : EndsT N d (bomS l)) :
    Calls Tryz.prog 24 #[.pointer (some ⟨L, 0, none⟩), v, .int .u64 enc] w (LoadE N d w (bomS l)) := by
  have CT := Lib.hid (trim_any v l w h)
  have hLl := World.block_lt_of_cell? w _ hL1
  simp only at hLl
  have HT := Lib.hid hT
  have HE := Lib.hid hE
  have hbl := bomS_le l
  obtain ⟨g, o, cap, rfl, hc, hx⟩ := h
  clear hx hc hT hE
  rcases he with rfl | rfl
  all_goals
    go_enter Tryz.func24, Tryz.ntmps24
    go_wp2_with fail
    refine CT.out.mono ?_
    rintro e w1 ⟨⟨v1, rfl, h1⟩, hw1⟩
    have HB1 : Hid (Below w.heap.size w w1) := by rw [hw1]; exact (Below.refl _ w).alloc (Nat.le_refl _) _
    have H1 := Lib.hid h1
    have hL11 : w1.cell? ⟨L, 1, none⟩ = some (.bool false) := (HB1.out.cell (p := ⟨L, 1, none⟩) hLl).trans hL1
    have hs1 := HB1.out.size
    clear hw1 h1 CT
    obtain ⟨g1, o1, cap1, rfl, _, _⟩ := H1.out
    go_wp2_with fail
    refine (convert_utf _ (bomS l) w1 H1.out _ (by simp)).mono ?_
    rintro e w2 ⟨rfl, hw2⟩
    obtain rfl := hw2.symm
    go_wp2_with fail
    refine (parse_any (bomS l) w1 (HT.out.below HB1.out) (by omega)).mono ?_
    rintro e w3 ⟨hb3, ⟨hn, p, a, rfl⟩ | ⟨kv, cs, b, m, cb, hn, rfl, hp⟩⟩
    · have HB3 := Lib.hid (HB1.out.trans (hb3.mono hs1))
      have HN : Hid (fullR N d (bomS l) = none) := by show _ = _; unfold fullR; rw [hn]; rfl
      have hne := neq_err a w3
      clear hb3 hn
      go_wp2
      go_ret2
      exact ⟨HB3.out, .inl ⟨HN.out, _, _, _, rfl⟩⟩
    · have HB3 := Lib.hid (HB1.out.trans (hb3.mono hs1))
      have hL13 : w3.cell? ⟨L, 1, none⟩ = some (.bool false) := (hb3.cell (p := ⟨L, 1, none⟩) (by show L < _; omega)).trans hL11
      have HN := Lib.hid hn
      have HP := Lib.hid ((hp.setD (d2 := false)).mono (B2 := w.heap.size) hs1)
      obtain ⟨q1, _, _, _, vk, vc, ho, _⟩ := hp
      have HB4 := Lib.hid (HB3.out.setCell (p := ⟨b, 2, none⟩) (by show _ ≤ b; omega) (.bool false))
      have d2 : w3.cell? ⟨b, 2, none⟩ = some (.bool false) := by simp [World.cell?, ho]
      have f2 : w3.frozen? ⟨b, 2, none⟩ = false := by simp [World.frozen?, ho]
      have CK := Lib.hid (check_any w.heap.size b m cb kv cs N hN d (w3.setCell ⟨b, 2, none⟩ (.bool false)) HP.out (HE.out kv cs hn))
      have hs4 := HB4.out.size
      clear hb3 hn ho
      go_wp2_with fail
      refine CK.out.mono ?_
      rintro e w5 ⟨hb5, ⟨rfl, hall⟩ | ⟨a, rfl, hbad⟩⟩
      · have HB5 := Lib.hid (HB4.out.trans (hb5.mono hs4))
        have HP5 := Lib.hid (HP.out.nk (NK.below hb5))
        have HALL := Lib.hid hall
        clear hb5 hall CK
        go_wp2
        go_ret2
        exact ⟨HB5.out, .inr ⟨kv, cs, b, m, cb, HN.out, HALL.out, rfl, HP5.out⟩⟩
      · have HB5 := Lib.hid (HB4.out.trans (hb5.mono hs4))
        have HF : Hid (fullR N d (bomS l) = none) := by
          show _ = _
          unfold fullR
          rw [HN.out]
          show (if kv.all _ = true then _ else none) = none
          rw [if_neg]
          intro hh
          obtain ⟨p, hp, hx⟩ := hbad
          have := List.all_eq_true.1 hh p hp
          rw [hx] at this
          cases this
        clear hb5 hbad CK
        go_wp2
        go_ret2
        exact ⟨HB5.out, .inl ⟨HF.out, _, _, _, rfl⟩⟩
set_option maxHeartbeats 800000 in
theorem loadBytes_full (N : Nat) (hN : N ≤ 1000000) (d : Nat) (L : Nat) (v : Value) (l : List UInt8) (enc : Int) (w : World) (h : Bs w v l) (he : enc = 0 ∨ enc = 1) (hT : Tabs w) (hl : l.length ≤ 50000) (hL0 : w.cell? ⟨L, 0, none⟩ = some (.int .u64 enc)) (hL1 : w.cell? ⟨L, 1, none⟩ = some (.bool false)) (hE : EndsT N d (bomS l)) :
    Calls Tryz.prog 20 #[.pointer (some ⟨L, 0, none⟩), v] w (LoadE N d w (bomS l)) := by
  have C := Lib.hid (loadB_full N hN d L v l enc w h he hT hl hL1 hE)
  obtain ⟨g, o, cap, rfl, hc, hx⟩ := h
  clear hx hc hT hL1 hE
  go_enter Tryz.func20, Tryz.ntmps20
  go_wp2_with fail
  refine C.out.mono ?_
  rintro e w1 ⟨hb, ⟨hn, p, t, a, rfl⟩ | ⟨kv, cs, b, m, cb, hn, hx, rfl, hp⟩⟩
  · have HN := Lib.hid hn
    have HB := Lib.hid hb
    clear hn hb
    go_wp2
    go_ret2
    exact ⟨HB.out, .inl ⟨HN.out, _, _, _, rfl⟩⟩
  · have HN := Lib.hid hn
    have HX := Lib.hid hx
    have HB := Lib.hid hb
    have HP := Lib.hid hp
    clear hn hb hp hx
    go_wp2
    go_ret2
    exact ⟨HB.out, .inr ⟨kv, cs, b, m, cb, HN.out, HX.out, rfl, HP.out⟩⟩
set_option maxHeartbeats 1600000 in
set_option maxRecDepth 100000 in
theorem loadP_full (N : Nat) (hN : N ≤ 1000000) (d : Nat) (s : List UInt8) (enc : Int) (w : World) (he : enc = 0 ∨ enc = 1) (hT : Tabs w) (hs : s.length ≤ 50000) (hE : EndsT N d (bomS s)) :
    Calls Tryz.prog 10 #[.string (txt s), .int .i64 enc, .bool false] w (ResP w (fullR N d (bomS s))) := by
  have hbom := bomS_le s
  have hz := txt_size s
  obtain ⟨W1, hW1⟩ : ∃ W1, w.alloc (.cells #[.int .u64 enc, .bool false, .bool false] 45) = W1 := ⟨_, rfl⟩
  have hL : W1.heap[w.heap.size]? = some (.cells #[.int .u64 enc, .bool false, .bool false] 45 (0, 0)) := by rw [← hW1]; exact al_new _ _ _ rfl
  have hcv := Go.Lib.run_convert_string_bytes (P := Tryz.prog) W1 9 51 5 (txt s) Tryz.underlying9 Tryz.underlying51 Tryz.underlying5
  have hB1 : Below w.heap.size w W1 := by rw [← hW1]; exact (Below.refl _ _).alloc (Nat.le_refl _) _
  have hB2 : Below W1.heap.size W1 (bytesWorld W1 5 (txt s)) := below_bytes W1 5 (txt s)
  have hbs := bs_bytes W1 s
  obtain ⟨W2, hW2⟩ : ∃ W2, bytesWorld W1 5 (txt s) = W2 := ⟨_, rfl⟩
  rw [hW2] at hcv hB2 hbs
  rw [hz] at hcv
  have hL2 : W2.heap[w.heap.size]? = some (.cells #[.int .u64 enc, .bool false, .bool false] 45 (0, 0)) := (hB2.block _ (lt_of_some hL)).trans hL
  have HB2 : Hid (Below w.heap.size w W2) := hB1.trans (hB2.mono hB1.size)
  have C := Lib.hid (loadBytes_full N hN d w.heap.size _ s enc W2 hbs he (hT.below HB2.out) hs (by simp [World.cell?, hL2]) (by simp [World.cell?, hL2]) hE)
  have hs2 := HB2.out.size
  obtain ⟨GC, hGC⟩ : ∃ n, grownCap W1 s.length 0 5 = n := ⟨_, rfl⟩
  rw [hGC] at hcv C
  obtain ⟨G, hG⟩ : ∃ n, W1.heap.size = n := ⟨_, rfl⟩
  rw [hG] at hcv C
  rw [← hW1] at hcv
  clear hW1 hW2 hL hL2 hB1 hB2 hbs hGC hG hT hz hE
  rcases he with rfl | rfl
  all_goals
    go_enter Tryz.func10, Tryz.ntmps10
    go_wp2_with fail
    refine C.out.mono ?_
    rintro e w1 ⟨hb, ⟨hn, p, t, a, rfl⟩ | ⟨kv, cs, b, m, cb, hn, hx, rfl, hp⟩⟩
    · have HN := Lib.hid hn
      have HB := Lib.hid (HB2.out.trans (hb.mono hs2))
      have hne := neq_iface t a w1
      clear hn hb C
      go_wp2
      go_ret2
      exact ⟨HB.out, .inl ⟨HN.out, rfl⟩⟩
    · have HN : Hid (fullR N d (bomS s) = some (kv.map (mkP (fun p => exV (exD kv N d [p.1] p.2)) cs))) := by
        show _ = _
        unfold fullR
        rw [hn]
        show (if kv.all _ = true then _ else none) = _
        rw [if_pos]
        rw [List.all_eq_true]
        intro p hp
        obtain ⟨r, hr⟩ := hx p hp
        rw [hr]; rfl
      have HB := Lib.hid (HB2.out.trans (hb.mono hs2))
      obtain ⟨h1, h2⟩ := parse_small (by omega) hn
      have CP := Lib.hid (props_any W2.heap.size b m cb false kv cs (fun p => exV (exD kv N d [p.1] p.2)) w1 hp h1 h2 (fun W hW p hp2 => by
        obtain ⟨r, hr⟩ := hx p hp2
        have := get_full W2.heap.size b m cb kv cs N hN d p.1 p.2 r W (hp.nk (NK.below hW)) hp2 hr
        rw [hr]
        exact this))
      have hs3 := HB.out.size
      clear hn hb hp h1 h2 C hx
      go_wp2_with fail
      refine CP.out.mono ?_
      rintro e w2 ⟨v, rfl, hpx, hb2⟩
      have HPX := Lib.hid hpx
      have HB3 := Lib.hid (HB.out.trans (hb2.mono hs3))
      clear hpx hb2 CP
      go_wp2
      go_ret2
      exact ⟨HB3.out, .inr ⟨_, v, HN.out, rfl, HPX.out⟩⟩

theorem lex_loads : lexT [97, 61, 98, 10, 99, 58, 32, 36, 123, 97, 125] = [(2, [97]), (3, [98]), (2, [99]), (3, [36, 123, 97, 125]), (1, [])] := by
  unfold lexT
  rw [rns_asc _ (by decide)]
  kernel_rfl
theorem parse_loads : parseM (lexT [97, 61, 98, 10, 99, 58, 32, 36, 123, 97, 125]) [] [] [] = some ([([97], [98]), ([99], [36, 123, 97, 125])], []) := by
  rw [lex_loads]
  kernel_rfl
theorem bom_loads : bomS [97, 61, 98, 10, 99, 58, 32, 36, 123, 97, 125] = [97, 61, 98, 10, 99, 58, 32, 36, 123, 97, 125] := by kernel_rfl
theorem full_loads : fullR 100 70 (bomS [97, 61, 98, 10, 99, 58, 32, 36, 123, 97, 125]) = some [⟨[97], [98], [98], []⟩, ⟨[99], [36, 123, 97, 125], [98], []⟩] := by
  rw [bom_loads]
  unfold fullR
  rw [parse_loads]
  kernel_rfl
theorem ends_loads : EndsT 100 70 (bomS [97, 61, 98, 10, 99, 58, 32, 36, 123, 97, 125]) := by
  rw [bom_loads]
  intro kv cs h p hp
  rw [parse_loads] at h
  cases h
  simp only [List.mem_cons, List.not_mem_nil, or_false] at hp
  rcases hp with rfl | rfl
  · intro e
    have : exD [([97], [98]), ([99], [36, 123, 97, 125])] 100 70 [[97]] [98] = some (some [98]) := by kernel_rfl
    rw [this] at e
    cases e
  · intro e
    have : exD [([97], [98]), ([99], [36, 123, 97, 125])] 100 70 [[99]] [36, 123, 97, 125] = some (some [98]) := by kernel_rfl
    rw [this] at e
    cases e
set_option maxHeartbeats 3200000 in
set_option maxRecDepth 100000 in
theorem loads_any (w : World) (hT : Tabs w) : Calls Tryz.prog 7 #[] w fun e w' => e = .returned (.bool true) ∧ Below w.heap.size w w' := by
  have CC : Hid (Calls Tryz.prog 10 #[.string ⟨#[97, 61, 98, 10, 99, 58, 32, 36, 123, 97, 125]⟩, .int .i64 1, .bool false] w (ResP w (some [⟨[97], [98], [98], []⟩, ⟨[99], [36, 123, 97, 125], [98], []⟩]))) := by
    have := loadP_full 100 (by decide) 70 [97, 61, 98, 10, 99, 58, 32, 36, 123, 97, 125] 1 w (.inr rfl) hT (by decide) ends_loads
    rw [full_loads] at this
    exact this
  clear hT
  go_enter Tryz.func7, Tryz.ntmps7
  go_wp2_with fail
  refine CC.out.mono ?_
  rintro e w3 ⟨hb3, ⟨hn, _⟩ | ⟨ps, v, hps, rfl, hpx⟩⟩
  · cases hn
  cases hps
  have HB3 := Lib.hid hb3
  obtain ⟨qao, qcap, rfl, hqc, hqp⟩ := hpx
  obtain ⟨g3, o3, cv3, rfl, h30, h31, h32, _, _⟩ := hqp 1 _ rfl
  have d0 : w3.cell? ⟨g3, o3 + 4, none⟩ = some (.string (txt [99])) := by simpa using h30
  have d1 : w3.cell? ⟨g3, o3 + 5, none⟩ = some (.string (txt [36, 123, 97, 125])) := by simpa [Nat.add_assoc] using h31
  have d2 : w3.cell? ⟨g3, o3 + 6, none⟩ = some (.string (txt [98])) := by simpa [Nat.add_assoc] using h32
  have e0 : ((txt [99]).toList == ([99] : List UInt8)) = true := by rw [txt_toList]; rfl
  have e1 : ((txt [36, 123, 97, 125]).toList == ([36, 123, 97, 125] : List UInt8)) = true := by rw [txt_toList]; rfl
  have e2 : ((txt [98]).toList == ([98] : List UInt8)) = true := by rw [txt_toList]; rfl
  simp only [List.length_cons, List.length_nil, Nat.zero_add] at hqc
  clear hb3 CC hqp h30 h31 h32
  go_wp2
  go_ret
  exact ⟨rfl, HB3.out⟩

end Go.Proofs.YtgbfphaccjjdnaaGreatDoor
