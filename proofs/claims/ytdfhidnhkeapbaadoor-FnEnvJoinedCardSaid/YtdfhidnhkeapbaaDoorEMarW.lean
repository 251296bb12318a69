/- godotenv.Marshal of a map of few entries: its walk. Conditions: the sizes, and the tables that are laid. -/
import Derived.Test.YtdfhidnhkeapbaaDoorEMar
import Derived.Laws.MakeOwn
namespace Go.Proofs.YtdfhidnhkeapbaaDoor
open Go.RowKit U8 Go.Sort
open Go.Lib hiding intOf

theorem row_apart {B n : Nat} {v : Value} {xs : List Value} {w : World} (h : w.ownsRow B 9 1 v n xs) {G m : Nat} {es rem : Es} (hr : RG G m es rem w) : v.ownBlock ≠ some m ∧ v.ownBlock ≠ some G := by
  obtain ⟨arr, c, s, sn, c0, h1, _, _, _, _, _, h7, _⟩ := hr
  exact ⟨own_ne_other h (fun x fz e => by rw [h1] at e; cases e), own_ne_other h (fun x fz e => by rw [h7] at e; cases e)⟩
theorem kvV_app (a b : KVs) : kvV (a ++ b) = kvV a ++ kvV b := by simp [kvV]
theorem kvV_mem {kv : KVs} {p : List UInt8 × List UInt8} (h : (Value.string (txt p.1), Value.string (txt p.2)) ∈ kvV kv) : p ∈ kv := by
  obtain ⟨q, hq, e⟩ := List.mem_map.1 h
  simp only [Prod.mk.injEq, Value.string.injEq] at e
  have : q = p := Prod.ext (txt_inj e.1) (txt_inj e.2)
  exact this ▸ hq
theorem perm_step {L A B C : List (List UInt8)} {x : List UInt8} (h : (L ++ (A ++ x :: B)).Perm C) : ((L ++ [x]) ++ (A ++ B)).Perm C := by
  refine List.Perm.trans ?_ h
  rw [List.append_assoc]
  refine List.Perm.append_left L ?_
  show (x :: (A ++ B)).Perm _
  exact List.perm_middle.symm

end Go.Proofs.YtdfhidnhkeapbaaDoor
