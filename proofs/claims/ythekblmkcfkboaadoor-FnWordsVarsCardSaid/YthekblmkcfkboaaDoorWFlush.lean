/- Parse's closure flush: its walk. -/
import Derived.Test.YthekblmkcfkboaaDoorWSmall
import Derived.Deep.DeepCutAuto
namespace Go.Proofs.YthekblmkcfkboaaDoor
open Go.RowKit U8
open Go.Lib hiding intOf

theorem Tryd.infoStr : (Tryd.prog.info? 9).map (fun i => (i.zero, i.size, i.bytes)) = some (some (.string ⟨#[]⟩), 1, 16) := by kernel_rfl
theorem one_str (W : World) (s : ByteArray) : ∀ (j : Nat) (u : Value), [Value.string s][j]? = some u → (W.alloc (.cells #[.string s] 9)).cell? ((⟨W.heap.size, 0, none⟩ : Addr).add j) = some u := by
  intro j u hj
  match j, hj with
  | 0, hj => simp at hj; subst hj; simp [Addr.add]
/-- The text of a row of bytes. -/
theorem run_row_text {w : World} {base : Nat} {v : Value} (l : List UInt8) (hown : w.ownsRow base 5 1 v l.length (byteCells l)) (hn : v.ownBlock ≠ none) :
    (convert 23 9 v).run Tryd.prog w = .ok (.string (txt l)) w := by
  rcases hown.2 with ⟨rfl, h0⟩ | ⟨g, cap, cur, rfl, _⟩
  · exact absurd rfl hn
  · exact run_bytes_text l rfl (fun j hj => by
      have hx : (byteCells l)[j]? = some (.int .u8 (l[j]).toNat) := by rw [byteCells_get, List.getElem?_eq_getElem hj]; rfl
      have hc := World.ownsRow.cells hown (g := g) rfl j _ hx
      rw [hx, ← hc]
      congr 1
      unfold Addr.add; split <;> simp_all)
/-- The buffer, cut to nothing. -/
theorem owns_cut {w : World} {base : Nat} {v : Value} {l : List UInt8} (hown : w.ownsRow base 5 1 v l.length (byteCells l)) (hn : v.ownBlock ≠ none) : ∃ g cap, v = .slice (some ⟨g, 0, none⟩) l.length cap ∧ l.length ≤ cap ∧ ∀ w' : World, w'.heap[g]? = w.heap[g]? → True := by
  rcases hown.2 with ⟨rfl, h0⟩ | ⟨g, cap, cur, rfl, _, _, hc, _⟩
  · exact absurd rfl hn
  · exact ⟨g, cap, rfl, hc, fun _ _ => trivial⟩

set_option maxHeartbeats 3200000 in
set_option maxRecDepth 100000 in
theorem flush_any (w : World) (A0 B0 G0 T0 S0 I0 pos : Nat) (T : ByteArray) (vb vk : Value) (args : List (List UInt8)) (buf bt : List UInt8) (got : Nat) (tq : Bool) (wr : World)
    (k : PB w.heap.size A0 B0 G0 T0 S0) (h : PW w A0 B0 G0 T0 S0 I0 T pos vb vk args buf bt got tq wr) (ha : args.length ≤ 1000000) (hg : got ≤ 2) :
    Calls Tryd.prog 30 #[.pointer (some ⟨G0, 0, none⟩), .pointer (some ⟨B0, 0, none⟩), .pointer (some ⟨A0, 0, none⟩), .pointer (some ⟨T0, 0, none⟩), .pointer (some ⟨S0, 0, none⟩)] wr fun e w' => e = .returned (.tuple #[]) ∧
      ∃ vb', PW w A0 B0 G0 T0 S0 I0 T pos vb' vk (if got == 2 || (got != 0 && !buf.isEmpty) then args ++ [buf] else args) [] bt 0 false w' := by
  obtain ⟨i0, hi, hz0, hz1, hz2⟩ := info_parts Tryd.infoStr
  have K := Lib.hid k
  have H := Lib.hid h
  obtain ⟨gb, cap, rfl, hcap, -⟩ := owns_cut h.br h.nb
  obtain ⟨va, hA, har⟩ := h.a
  obtain ⟨ao, acap, rfl⟩ := owns_slice har
  have htx := run_row_text buf h.br h.nb
  have cg : wr.cell? ⟨G0, 0, none⟩ = some (.int .i64 got) := by simp [World.cell?, h.g]
  have cb : wr.cell? ⟨B0, 0, none⟩ = some (.slice (some ⟨gb, 0, none⟩) buf.length cap) := by simp [World.cell?, h.b]
  have ca : wr.cell? ⟨A0, 0, none⟩ = some (.slice ao args.length acap) := by simp [World.cell?, hA]
  have HAR := Lib.hid har
  have cz : wr.cell? ⟨T0, 0, none⟩ = some (.bool tq) := by simp [World.cell?, h.t]
  have cs : wr.cell? ⟨S0, 0, none⟩ = some (.bool false) := by simp [World.cell?, h.z]
  have fg : wr.frozen? ⟨G0, 0, none⟩ = false := by simp [World.frozen?, h.g]
  have fb : wr.frozen? ⟨B0, 0, none⟩ = false := by simp [World.frozen?, h.b]
  have fz : wr.frozen? ⟨T0, 0, none⟩ = false := by simp [World.frozen?, h.t]
  have fs : wr.frozen? ⟨S0, 0, none⟩ = false := by simp [World.frozen?, h.z]
  have lg : G0 < wr.heap.size := (Array.getElem?_eq_some_iff.1 h.g).1
  have lb : B0 < wr.heap.size := (Array.getElem?_eq_some_iff.1 h.b).1
  have lt : T0 < wr.heap.size := (Array.getElem?_eq_some_iff.1 h.t).1
  have ls : S0 < wr.heap.size := (Array.getElem?_eq_some_iff.1 h.z).1
  have HC := Lib.hid (PW.cut k h)
  obtain ⟨ka, kb, kg, kt, ks, nab, nag, naT, naS, nbg, nbt, nbs, ngt, ngs, nts⟩ := k
  have ngb := nbg.symm
  have ntb := nbt.symm
  have nsb := nbs.symm
  have ntg := ngt.symm
  have nsg := ngs.symm
  have nst := nts.symm
  cases hw : (got == 2 || (got != 0 && !buf.isEmpty)) with
  | false =>
    have hg1 : got = 0 ∨ (got = 1 ∧ buf = []) := by
      rcases (show got = 0 ∨ got = 1 ∨ got = 2 by omega) with rfl | rfl | rfl
      · exact .inl rfl
      · refine .inr ⟨rfl, ?_⟩
        cases buf with
        | nil => rfl
        | cons b l => simp at hw
      · simp at hw
    clear hw h HAR H
    rcases hg1 with rfl | ⟨rfl, rfl⟩
    · go_enter Tryd.func30, Tryd.ntmps30
      go_wp2
      refine bodyPost_end (results_none rfl _ _ _) rfl ?_
      exact ⟨rfl, _, HC.out⟩
    · go_enter Tryd.func30, Tryd.ntmps30
      go_wp2
      refine bodyPost_end (results_none rfl _ _ _) rfl ?_
      exact ⟨rfl, _, HC.out⟩
  | true =>
    have hal : args.length ≤ 1000000 := ha
    obtain ⟨W1, hW1⟩ : ∃ W1, wr.alloc (.cells #[.string (txt buf)] 9) = W1 := ⟨_, rfl⟩
    have HW1 := Lib.hid hW1
    have hone : Hid (∀ (j : Nat) (u : Value), [Value.string (txt buf)][j]? = some u → (wr.alloc (.cells #[.string (txt buf)] 9)).cell? ((⟨wr.heap.size, 0, none⟩ : Addr).add j) = some u) := one_str wr (txt buf)
    have hkeep : Hid (∀ x, x < wr.heap.size → (wr.alloc (.cells #[.string (txt buf)] 9)).heap[x]? = wr.heap[x]?) := fun x hx => alloc_old wr _ _ hx
    have hbA : Hid (Below w.heap.size w (wr.alloc (.cells #[.string (txt buf)] 9))) := h.bw.alloc h.bw.size _
    have HA := Lib.hid hA
    have HN := Lib.hid h.bw.size
    have hg1 : got = 2 ∨ (got = 1 ∧ 0 < buf.length) := by
      rcases (show got = 0 ∨ got = 1 ∨ got = 2 by omega) with rfl | rfl | rfl
      · simp at hw
      · refine .inr ⟨rfl, ?_⟩
        cases buf with
        | nil => simp at hw
        | cons b l => simp
      · exact .inl rfl
    clear hw h har hA hW1 HC
    rcases hg1 with rfl | ⟨rfl, hbl⟩
    all_goals
      go_enter Tryd.func30, Tryd.ntmps30
      go_wp2_with (at_builtin; refine wpList_append_own _ rfl _ _ 22 rfl w.heap.size 9 i0 (.string ⟨#[]⟩) 1 16 Tryd.underlying22 hi hz0 hz1 hz2 rfl (by decide) (.slice ao args.length acap) args.length (strsV args) rfl (World.ownsRow.alloc HAR.out _) ⟨wr.heap.size, 0, none⟩ 1 1 [.string (txt buf)] rfl rfl hone.out (by intro u hu; simp at hu; subst hu; rfl) (by unfold maxLen; omega) (by omega) (by have := HN.out; simp; omega) ?_)
      intro v' w2 hown' hgrow _
      obtain ⟨ao2, cap2, rfl⟩ := owns_slice hown'
      obtain ⟨e0, e1, e2, hP⟩ := PW.argTo K.out H.out HA.out HAR.out hkeep.out hbA.out (by simp) (args' := args ++ [buf]) hgrow (by rw [List.length_append]; show World.ownsRow _ _ _ _ _ _ (List.map _ _); rw [List.map_append]; exact hown')
      have HP := Lib.hid hP
      clear hP hown' hgrow cg cb ca cz cs fg fb fz fs htx
      go_upto_region 2 with fail
      generalize w2.setCell ⟨A0, 0, none⟩ (.slice ao2 (args.length + 1) cap2) = w3 at *
      have HC2 := Lib.hid (PW.cut K.out HP.out)
      have cb : w3.cell? ⟨B0, 0, none⟩ = some (.slice (some ⟨gb, 0, none⟩) buf.length cap) := by simp [World.cell?, HP.out.b]
      have fg : w3.frozen? ⟨G0, 0, none⟩ = false := by simp [World.frozen?, HP.out.g]
      have fb : w3.frozen? ⟨B0, 0, none⟩ = false := by simp [World.frozen?, HP.out.b]
      have fz : w3.frozen? ⟨T0, 0, none⟩ = false := by simp [World.frozen?, HP.out.t]
      have fs : w3.frozen? ⟨S0, 0, none⟩ = false := by simp [World.frozen?, HP.out.z]
      have lg2 : G0 < w3.heap.size := (Array.getElem?_eq_some_iff.1 HP.out.g).1
      have lb2 : B0 < w3.heap.size := (Array.getElem?_eq_some_iff.1 HP.out.b).1
      have lt2 : T0 < w3.heap.size := (Array.getElem?_eq_some_iff.1 HP.out.t).1
      have ls2 : S0 < w3.heap.size := (Array.getElem?_eq_some_iff.1 HP.out.z).1
      have cg : ∃ v, w3.cell? ⟨G0, 0, none⟩ = some v := ⟨_, by simp [World.cell?, HP.out.g]; rfl⟩
      have cz : w3.cell? ⟨T0, 0, none⟩ = some (.bool tq) := by simp [World.cell?, HP.out.t]
      have cs : w3.cell? ⟨S0, 0, none⟩ = some (.bool false) := by simp [World.cell?, HP.out.z]
      obtain ⟨vg, cg⟩ := cg
      clear HP e0 e1 e2
      go_wp2
      refine bodyPost_end (results_none rfl _ _ _) rfl ?_
      exact ⟨rfl, _, HC2.out⟩

end Go.Proofs.YthekblmkcfkboaaDoor
