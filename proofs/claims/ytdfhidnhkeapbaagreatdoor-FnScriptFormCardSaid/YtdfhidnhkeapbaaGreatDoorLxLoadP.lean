/- impl.LoadProps without expansion. Condition: the text's length. -/
import Derived.Test.YtdfhidnhkeapbaaGreatDoorLxProps
namespace Go.Proofs.YtdfhidnhkeapbaaGreatDoor
open Go.RowKit U8
open Go.Lib hiding intOf

theorem lexM_len : ∀ (n m : Nat) (rs : List Nat), (lexM n m rs).length ≤ 2 * n
  | 0, m, rs => by simp [lexM]
  | n + 1, 0, [] => by simp [lexM]; omega
  | n + 1, 0, r :: t => by
    rw [lexM]
    have h1 := lexM_len n 0 t
    have h2 := lexM_len n 1 t
    have h3 := lexM_len n 2 (r :: t)
    split
    · omega
    · split
      · omega
      · split <;> omega
  | n + 1, 1, rs => by
    rw [lexM]
    split
    · simp; omega
    · rename_i c t he
      have h1 := lexM_len n 0 t
      rw [List.length_cons]; omega
  | n + 1, 2, rs => by
    rw [lexM]
    split
    · simp; omega
    · rename_i k t he
      have h1 := lexM_len n 3 t
      have hx : (if t = [] then [((1, []) : It)] else lexM n 3 t).length ≤ 2 * n + 1 := by
        split
        · simp
        · omega
      rw [List.length_append]
      split
      · simp only [List.length_nil]; omega
      · simp only [List.length_cons, List.length_nil]; omega
  | n + 1, 3, rs => by
    rw [lexM]
    have h1 := lexM_len n 4 (bvS rs)
    omega
  | n + 1, m + 4, rs => by
    rw [lexM]
    split
    · simp; omega
    · rename_i v t e he
      have h1 := lexM_len n 0 t
      rw [List.length_cons]
      cases e <;> simp <;> omega
theorem lexT_len (s : List UInt8) (h : s.length ≤ 50000) : (lexT s).length ≤ 600000 := by
  have h1 := lexM_len (mu 0 (rns s) + 1) 0 (rns s)
  have h2 := rns_leL s
  unfold lexT
  unfold mu at h1 ⊢
  simp at h1 ⊢
  omega
theorem putC_len {cs : CS2} {k : List UInt8} {co : List (List UInt8)} {M : Nat} (h : ∀ p ∈ cs, p.2.length ≤ M) (hc : co.length ≤ M) : ∀ p ∈ putC cs k co, p.2.length ≤ M := by
  intro p hp
  unfold putC at hp
  split at hp
  · exact h p hp
  · rcases updA_mem hp with rfl | hp
    · exact hc
    · exact h p hp
theorem parse_len (M : Nat) : ∀ (n : Nat) (its : List It) (kv kv' : KV2) (cs cs' : CS2) (co : List (List UInt8)), its.length ≤ n → parseM its kv cs co = some (kv', cs') → (∀ p ∈ cs, p.2.length ≤ M) → its.length + co.length ≤ M →
    kv'.length ≤ kv.length + its.length ∧ ∀ p ∈ cs', p.2.length ≤ M
  | _, [], kv, kv', cs, cs', co, hl, h, hc, hm => by simp [parseM] at h
  | 0, x :: t, kv, kv', cs, cs', co, hl, h, hc, hm => by simp at hl
  | n + 1, x :: t, kv, kv', cs, cs', co, hl, h, hc, hm => by
    simp only [List.length_cons] at hl hm ⊢
    unfold parseM at h
    split at h
    · simp at h; rw [← h.1, ← h.2]; exact ⟨by omega, hc⟩
    · split at h
      · have := parse_len M n t kv kv' cs cs' _ (by omega) h hc (by rw [List.length_append]; simp; omega)
        exact ⟨by omega, this.2⟩
      · split at h
        · split at h
          · cases h
          · rename_i y t2
            simp only [List.length_cons] at hl hm ⊢
            split at h
            · simp at h
              have hu := updA_len kv (x.2, [])
              rw [← h.1, ← h.2]
              exact ⟨by omega, putC_len hc (by omega)⟩
            · split at h
              · have hu := updA_len kv (x.2, y.2)
                have := parse_len M n t2 _ kv' _ cs' _ (by omega) h (putC_len hc (by omega)) (by simp; omega)
                exact ⟨by omega, this.2⟩
              · cases h
        · cases h
theorem cmOf_len {cs : CS2} {M : Nat} (h : ∀ p ∈ cs, p.2.length ≤ M) (k : List UInt8) : (cmOf cs k).length ≤ M := by
  unfold cmOf
  split
  · rename_i p hp
    exact h p (List.mem_of_find?_eq_some hp)
  · simp
theorem parse_small {T : List UInt8} {kv : KV2} {cs : CS2} (hT : T.length ≤ 50000) (h : parseM (lexT T) [] [] [] = some (kv, cs)) : kv.length ≤ 1000000 ∧ ∀ k, (cmOf cs k).length ≤ 1000000 := by
  have h1 := lexT_len T hT
  obtain ⟨h2, h3⟩ := parse_len 1000000 _ _ _ _ _ _ _ (Nat.le_refl _) h (fun p hp => by cases hp) (by simp; omega)
  exact ⟨by simp at h2; omega, cmOf_len h3⟩
/-- The properties of a text, without expansion; none: an error. -/
def plainR (T : List UInt8) : Option (List PropA) := (parseM (lexT T) [] [] []).map fun r => r.1.map (mkP Prod.snd r.2)
def ResP (w : World) (R : Option (List PropA)) (e : Ending) (w' : World) : Prop := Below w.heap.size w w' ∧
  ((R = none ∧ e = .returned (.tuple #[.slice none 0 0, .bool false])) ∨ ∃ ps v, R = some ps ∧ e = .returned (.tuple #[v, .bool true]) ∧ Px w' v ps)
set_option maxHeartbeats 800000 in
theorem loadBytes_plain (L : Nat) (v : Value) (l : List UInt8) (enc : Int) (w : World) (h : Bs w v l) (he : enc = 0 ∨ enc = 1) (hT : Tabs w) (hl : l.length ≤ 50000) (hL0 : w.cell? ⟨L, 0, none⟩ = some (.int .u64 enc)) (hL1 : w.cell? ⟨L, 1, none⟩ = some (.bool true)) :
    Calls Tryz.prog 49 #[.pointer (some ⟨L, 0, none⟩), v] w (LoadN w (bomS l)) := by
  have C := Lib.hid (loadB_plain L v l enc w h he hT hl hL1)
  obtain ⟨g, o, cap, rfl, hc, hx⟩ := h
  clear hx hc hT hL1
  go_enter Tryz.func49, Tryz.ntmps49
  go_wp2_with fail
  refine C.out.mono ?_
  rintro e w1 ⟨hb, ⟨hn, t, a, rfl⟩ | ⟨kv, cs, b, m, cb, hn, rfl, hp⟩⟩
  · have HN := Lib.hid hn
    have HB := Lib.hid hb
    clear hn hb
    go_wp2
    go_ret2
    exact ⟨HB.out, .inl ⟨HN.out, _, _, rfl⟩⟩
  · have HN := Lib.hid hn
    have HB := Lib.hid hb
    have HP := Lib.hid hp
    clear hn hb hp
    go_wp2
    go_ret2
    exact ⟨HB.out, .inr ⟨kv, cs, b, m, cb, HN.out, rfl, HP.out⟩⟩
theorem below_bytes (W : World) (e : TypeId) (s : ByteArray) : Below W.heap.size W (bytesWorld W e s) := ⟨rfl, rfl, rfl, by rw [bytesWorld_size]; omega, fun k hk => bytesWorld_at_old W e s k hk⟩
theorem neq_iface (t : TypeId) (a : Option Addr) (w : World) : (binOp .neq 90 (.iface t (.pointer a)) .nilIface).run Tryz.prog w = .ok (.bool true) w := by kernel_rfl
set_option maxHeartbeats 1600000 in
set_option maxRecDepth 100000 in
theorem loadP_plain (s : List UInt8) (enc : Int) (w : World) (he : enc = 0 ∨ enc = 1) (hT : Tabs w) (hs : s.length ≤ 50000) :
    Calls Tryz.prog 38 #[.string (txt s), .int .i64 enc, .bool true] w (ResP w (plainR (bomS s))) := by
  have hbom := bomS_le s
  have hz := txt_size s
  obtain ⟨W1, hW1⟩ : ∃ W1, w.alloc (.cells #[.int .u64 enc, .bool true, .bool false] 100) = W1 := ⟨_, rfl⟩
  have hL : W1.heap[w.heap.size]? = some (.cells #[.int .u64 enc, .bool true, .bool false] 100 (0, 0)) := by rw [← hW1]; exact al_new _ _ _ rfl
  have hcv := Go.Lib.run_convert_string_bytes (P := Tryz.prog) W1 9 103 5 (txt s) Tryz.underlying9 Tryz.underlying103 Tryz.underlying5
  have hB1 : Below w.heap.size w W1 := by rw [← hW1]; exact (Below.refl _ _).alloc (Nat.le_refl _) _
  have hB2 : Below W1.heap.size W1 (bytesWorld W1 5 (txt s)) := below_bytes W1 5 (txt s)
  have hbs := bs_bytes W1 s
  obtain ⟨W2, hW2⟩ : ∃ W2, bytesWorld W1 5 (txt s) = W2 := ⟨_, rfl⟩
  rw [hW2] at hcv hB2 hbs
  rw [hz] at hcv
  have hL2 : W2.heap[w.heap.size]? = some (.cells #[.int .u64 enc, .bool true, .bool false] 100 (0, 0)) := (hB2.block _ (lt_of_some hL)).trans hL
  have HB2 : Hid (Below w.heap.size w W2) := hB1.trans (hB2.mono hB1.size)
  have C := Lib.hid (loadBytes_plain w.heap.size _ s enc W2 hbs he (hT.below HB2.out) hs (by simp [World.cell?, hL2]) (by simp [World.cell?, hL2]))
  have hs2 := HB2.out.size
  obtain ⟨GC, hGC⟩ : ∃ n, grownCap W1 s.length 0 5 = n := ⟨_, rfl⟩
  rw [hGC] at hcv C
  obtain ⟨G, hG⟩ : ∃ n, W1.heap.size = n := ⟨_, rfl⟩
  rw [hG] at hcv C
  rw [← hW1] at hcv
  clear hW1 hW2 hL hL2 hB1 hB2 hbs hGC hG hT hz
  rcases he with rfl | rfl
  all_goals
    go_enter Tryz.func38, Tryz.ntmps38
    go_wp2_with fail
    refine C.out.mono ?_
    rintro e w1 ⟨hb, ⟨hn, t, a, rfl⟩ | ⟨kv, cs, b, m, cb, hn, rfl, hp⟩⟩
    · have HN : Hid (plainR (bomS s) = none) := by show _ = _; unfold plainR; rw [hn]; rfl
      have HB := Lib.hid (HB2.out.trans (hb.mono hs2))
      have hne := neq_iface t a w1
      clear hn hb C
      go_wp2
      go_ret2
      exact ⟨HB.out, .inl ⟨HN.out, rfl⟩⟩
    · have HN : Hid (plainR (bomS s) = some (kv.map (mkP Prod.snd cs))) := by show _ = _; unfold plainR; rw [hn]; rfl
      have HB := Lib.hid (HB2.out.trans (hb.mono hs2))
      obtain ⟨h1, h2⟩ := parse_small (by omega) hn
      have CP := Lib.hid (props_any W2.heap.size b m cb true kv cs Prod.snd w1 hp h1 h2 (fun W hW p hp2 => (get_plain W2.heap.size b m cb kv cs p.1 p.2 W (hp.nk (NK.below hW)) hp2).mono (by rintro e w' ⟨rfl, rfl⟩; exact ⟨rfl, Below.refl _ _⟩)))
      have hs3 := HB.out.size
      clear hn hb hp h1 h2 C
      go_wp2_with fail
      refine CP.out.mono ?_
      rintro e w2 ⟨v, rfl, hpx, hb2⟩
      have HPX := Lib.hid hpx
      have HB3 := Lib.hid (HB.out.trans (hb2.mono hs3))
      clear hpx hb2 CP
      go_wp2
      go_ret2
      exact ⟨HB3.out, .inr ⟨_, v, HN.out, rfl, HPX.out⟩⟩
end Go.Proofs.YtdfhidnhkeapbaaGreatDoor
