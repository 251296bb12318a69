/- The lexer's scanUnicodeLiteral; errors.New and the text of its errors. Condition: the number of characters gathered. -/
import Derived.Test.YtdfhidnhkeapbaaGreatDoorLxScan
namespace Go.Proofs.YtdfhidnhkeapbaaGreatDoor
open Go.RowKit U8
open Go.Lib hiding intOf

theorem errNew_any (x : ByteArray) (w : World) : Calls Tryz.prog 83 #[.string x] w fun e w' => e = .returned (.iface 161 (.pointer (some ⟨w.heap.size, 0, none⟩))) ∧ w' = w.alloc (.cells #[.string x] 163) := by
  go_enter Tryz.func83, Tryz.ntmps83
  go_wp2
  go_ret
  exact ⟨rfl, rfl⟩
theorem errStr_any (N : Nat) (x : ByteArray) (w : World) (h : w.cell? ⟨N, 0, none⟩ = some (.string x)) : Calls Tryz.prog 194 #[.pointer (some ⟨N, 0, none⟩)] w fun e w' => e = .returned (.string x) ∧ w' = w := by
  go_enter Tryz.func194, Tryz.ntmps194
  go_wp2
  go_ret
  exact ⟨rfl, rfl⟩
/-- A store into another row of characters. -/
theorem Lx.other {w0 : World} {b : Nat} {s rest : List UInt8} {wd : Nat} {acc : List Nat} {its : List LI} {W : World} (h : Lx w0 b s rest wd acc its W) (D j : Nat) (u : Value) (hD0 : w0.heap.size ≤ D) (hDb : D ≠ b) {vr : Value} (hv : W.cell? ⟨b, 6, none⟩ = some vr) (hvr : vr.ownBlock ≠ some D)
    {x : Array Value} {fz : Nat × Nat} (hD : W.heap[D]? = some (.cells x 21 fz)) : Lx w0 b s rest wd acc its (W.setCell ⟨D, j, none⟩ u) := by
  obtain ⟨h1, h2, h3, q, st, z1, z2, vr', vi, hq, hst, hb, hr, hi⟩ := h
  obtain rfl : vr' = vr := by simpa [World.cell?, hb] using hv
  exact ⟨h1, h2.setCell (p := ⟨D, j, none⟩) hD0 _, h3, q, st, z1, z2, vr', vi, hq, hst, (Below.heap_setCell _ _ _ _ (Ne.symm hDb)).trans hb, owns_keep hr fun g hg => Below.heap_setCell _ _ _ _ (fun e => hvr (by rw [hg, e])),
    owns_keep hi fun g hg => Below.heap_setCell _ _ _ _ (fun e => own_ne_type hi hD (by decide) (by rw [hg, e]))⟩
theorem has_hex (r : Nat) : hasR [48, 49, 50, 51, 52, 53, 54, 55, 56, 57, 97, 98, 99, 100, 101, 102, 65, 66, 67, 68, 69, 70] r = hexR r := by
  unfold hasR
  rw [show rns [48, 49, 50, 51, 52, 53, 54, 55, 56, 57, 97, 98, 99, 100, 101, 102, 65, 66, 67, 68, 69, 70] = [48, 49, 50, 51, 52, 53, 54, 55, 56, 57, 97, 98, 99, 100, 101, 102, 65, 66, 67, 68, 69, 70] by decide +kernel]
  rw [Bool.eq_iff_iff]
  unfold hexR
  simp
  omega
theorem hex4_short : ∀ ds : List Nat, ds.length < 4 → hex4 ds = none
  | [], _ => rfl
  | [_], _ => rfl
  | [_, _], _ => rfl
  | [_, _, _], _ => rfl
  | _ :: _ :: _ :: _ :: _, h => by simp at h; omega
theorem hex4_bad : ∀ (ds : List Nat) (r : Nat) (t : List Nat), ds.length < 4 → hexR r = false → hex4 (ds ++ r :: t) = none
  | [], r, t, _, h => by
    match t with
    | [] => rfl
    | [_] => rfl
    | [_, _] => rfl
    | a :: b :: c :: t => simp [hex4, h]
  | [x], r, t, _, h => by
    match t with
    | [] => rfl
    | [_] => rfl
    | a :: b :: t => simp [hex4, h]
  | [x, y], r, t, _, h => by
    match t with
    | [] => rfl
    | a :: t => simp [hex4, h]
  | [x, y, z], r, t, _, h => by simp [hex4, h]
  | _ :: _ :: _ :: _ :: _, _, _, h, _ => by simp at h; omega
theorem hexR_lt {r : Nat} (h : hexR r = true) : r < 128 ∧ Sc r := by
  unfold hexR at h
  simp only [Bool.or_eq_true, decide_eq_true_eq] at h
  unfold Sc
  omega
theorem encA_hex : ∀ ds : List Nat, (∀ d ∈ ds, hexR d = true) → encA ds = ds.map Nat.toUInt8
  | [], _ => rfl
  | d :: ds, h => by
    obtain ⟨h1, h2⟩ := hexR_lt (h d (by simp))
    have ih := encA_hex ds fun x hx => h x (by simp [hx])
    unfold encA at ih ⊢
    rw [List.flatMap_cons, ih, encode_enc1 d h2, txt_list, enc1_a h1]
    rfl
theorem hex4_yes (ds t : List Nat) (hl : ds.length = 4) (h : ∀ d ∈ ds, hexR d = true) : hex4 (ds ++ t) = some (hexN (ds.map Nat.toUInt8), t) := by
  match ds, hl with
  | [a, b, c, d], _ =>
    have ha := h a (by simp)
    have hb := h b (by simp)
    have hc := h c (by simp)
    have hd := h d (by simp)
    have ea := u8_toNat (show a < 256 by have := (hexR_lt ha).1; omega)
    have eb := u8_toNat (show b < 256 by have := (hexR_lt hb).1; omega)
    have ec := u8_toNat (show c < 256 by have := (hexR_lt hc).1; omega)
    have ed := u8_toNat (show d < 256 by have := (hexR_lt hd).1; omega)
    simp [hex4, hexN, ha, hb, hc, hd, ea, eb, ec, ed]
/-- How an escape ends: the character gathered and what is left; or an error. -/
def ScanP (w0 : World) (b : Nat) (s : List UInt8) (acc : List Nat) (its : List LI) (R : Option (Nat × List Nat)) (e : Ending) (w' : World) : Prop :=
  (∃ (c : Nat) (t : List Nat) (rest2 : List UInt8) (wd2 : Nat), R = some (c, t) ∧ e = .returned .nilIface ∧ Lx w0 b s rest2 wd2 (acc ++ [c]) its w' ∧ rns rest2 = t) ∨
  (R = none ∧ ∃ (N : Nat) (x rest2 : List UInt8) (wd2 : Nat), e = .returned (.iface 161 (.pointer (some ⟨N, 0, none⟩))) ∧ w'.cell? ⟨N, 0, none⟩ = some (.string (txt x)) ∧ Lx w0 b s rest2 wd2 acc its w')
theorem scan_err {w0 : World} {b : Nat} {s r1 : List UInt8} {wd1 : Nat} {acc : List Nat} {its : List LI} {R : Option (Nat × List Nat)} {W : World} (x : List UInt8) (h : Lx w0 b s r1 wd1 acc its W) (hR : R = none) {e : Ending} (he : e = .returned (.iface 161 (.pointer (some ⟨W.heap.size, 0, none⟩)))) :
    ScanP w0 b s acc its R e (W.alloc (.cells #[.string (txt x)] 163)) :=
  .inr ⟨hR, W.heap.size, x, r1, wd1, he, by rw [World.cell?_alloc_new]; rfl, h.below ((Below.refl _ _).alloc (Nat.le_refl _) _)⟩
end Go.Proofs.YtdfhidnhkeapbaaGreatDoor
