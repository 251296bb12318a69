/- (*parser).recover: idle, and with a panic of the parser's own. No condition of its own. -/
import Derived.Recover
import Derived.Test.YtdfhidnhkeapbaaGreatDoorLxItem
namespace Go.Proofs.YtdfhidnhkeapbaaGreatDoor
open Go.RowKit U8
open Go.Lib hiding intOf

theorem rec_idle (p q : Addr) (w : World) :
    CallsD Tryz.prog 88 #[.pointer (some p), .pointer (some q)] .returning w fun e u' w' => e = .returned (.tuple #[]) ∧ u' = .returning ∧ w' = w := by
  refine callsD_of_wpS Tryz.func88 rfl fun c₀ cs hu => ?_
  apply wpS_seq
  apply wpS_region
  simp [wpOpsS, go_sem, recoverD, hu, Tryz.ntmps88, Exit.thenS]
  apply wpS_seq
  apply wpS_region
  simp [wpOpsS, go_sem, Exit.thenS]
  refine wpS_cond (t := false) (by simp [Act.eval, Array.replicate]) ?_
  simp only [Bool.false_eq_true, if_false]
  refine wpS_of_wp (wp_skip ?_)
  cases c₀
  simp_all [bodyPostS, results, Tryz.results88]
theorem as_error (a : Nat) (w : World) : (Instr.typeAssert (.iface 161 (.pointer (some ⟨a, 0, none⟩))) 20 90 false).run Tryz.prog w = .ok (.iface 161 (.pointer (some ⟨a, 0, none⟩))) w := by kernel_rfl
theorem rec_caught (p q : Addr) (a : Nat) (x : Value) (older : List PanicEntry) (w : World) (hc : w.cell? q = some x) (hz : w.frozen? q = false) :
    CallsD Tryz.prog 88 #[.pointer (some p), .pointer (some q)] (.panicking ({ v := .iface 161 (.pointer (some ⟨a, 0, none⟩)), recovered := false } :: older)) w fun e u' w' =>
      e = .returned (.tuple #[]) ∧ u' = .panicking ({ v := .iface 161 (.pointer (some ⟨a, 0, none⟩)), recovered := true } :: older) ∧ w' = w.setCell q (.iface 161 (.pointer (some ⟨a, 0, none⟩))) := by
  refine callsD_of_wpS Tryz.func88 rfl fun c₀ cs hu => ?_
  apply wpS_seq
  apply wpS_region
  simp [wpOpsS, go_sem, recoverD, hu, Tryz.ntmps88, Exit.thenS]
  apply wpS_seq
  apply wpS_region
  simp [wpOpsS, go_sem, Exit.thenS]
  refine wpS_cond (t := true) (by simp [Act.eval, Array.replicate]) ?_
  simp only [if_true]
  apply wpS_region
  simp [wpOpsS, go_sem, hc, hz, as_error, bodyPostS, results, Tryz.results88]
end Go.Proofs.YtdfhidnhkeapbaaGreatDoor
