/- io.WriteString over a strings.Builder. -/
import Derived.Test.YtmmnljepbnifnaaDoorGEnc
import Derived.Stop.Asserts
namespace Go.Proofs.YtmmnljepbnifnaaDoor
open Go.RowKit U8
open Go.Lib hiding intOf

theorem Tryd.isSW (v : Value) (w : World) : (Instr.typeAssert (.iface 49 v) 69 86 true).run Tryd.prog w = .ok (.tuple #[.iface 49 v, .bool true]) w := run_typeAssert_hasB Tryd.underlying86 (by kernel_rfl) v 69 w
open Go.Instr in
theorem Tryd.invSW (v : Value) (w : World) : (method 284 49 v "WriteString").run Tryd.prog w = .ok (47, v) w := by kernel_rfl
set_option maxHeartbeats 1600000 in
set_option maxRecDepth 100000 in
theorem wstr_any (B b : Nat) (l m : List UInt8) (w : World) (h : Bld B b l w) (hl : l.length + m.length ≤ 140737488355328) (hB : B ≤ w.heap.size) :
    Calls Tryd.prog 30 #[.iface 49 (.pointer (some ⟨b, 0, none⟩)), .string (txt m)] w fun e w' => e = .returned (.tuple #[.int .i64 m.length, .nilIface]) ∧ Bld B b (l ++ m) w' ∧ Below B w w' ∧ OthersKept 5 (some b) w w' := by
  have C := Lib.hid (bld_write B b l m w h hl hB)
  have hta := Tryd.isSW (.pointer (some ⟨b, 0, none⟩)) w
  have him := Tryd.invSW (.pointer (some ⟨b, 0, none⟩)) w
  clear h hl hB
  go_enter Tryd.func30, Tryd.ntmps30
  go_wp2_with fail
  refine C.out.mono ?_
  rintro e w1 ⟨rfl, h1, h2, h3⟩
  have H1 := Lib.hid h1
  have H2 := Lib.hid h2
  have H3 := Lib.hid h3
  clear h1 h2 h3 hta him
  go_wp2
  go_ret2
  exact ⟨rfl, H1.out, H2.out, H3.out⟩
end Go.Proofs.YtmmnljepbnifnaaDoor
