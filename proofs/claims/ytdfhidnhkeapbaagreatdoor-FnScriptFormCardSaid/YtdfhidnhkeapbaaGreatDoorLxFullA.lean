/- (*Properties).expand. Condition: expansion's plain form ends. -/
import Derived.Test.YtdfhidnhkeapbaaGreatDoorLxExpW
import Derived.Deep.RegionWith
namespace Go.Proofs.YtdfhidnhkeapbaaGreatDoor
open Go.RowKit U8
open Go.Lib hiding intOf

def RetP (R : Option (List UInt8)) (W : World) (e : Ending) (w' : World) : Prop :=
  (match R with | some r => e = .returned (.tuple #[.string (txt r), .nilIface]) | none => ∃ a, e = .returned (.tuple #[.string ⟨#[]⟩, .iface 161 (.pointer (some ⟨a, 0, none⟩))])) ∧ Below W.heap.size W w'
theorem own_one (W : World) (k : ByteArray) : (W.alloc (.cells #[.string k] 9)).ownsRow W.heap.size 9 1 (.slice (some ⟨W.heap.size, 0, none⟩) 1 1) 1 [.string k] :=
  ⟨rfl, .inr ⟨W.heap.size, 1, #[.string k], rfl, Nat.le_refl _, al_new _ _ _ rfl, Nat.le_refl _, by unfold maxLen; omega, rfl, rfl⟩⟩
set_option maxHeartbeats 12800000 in
set_option maxRecDepth 100000 in
theorem pexp_any (B b m cb : Nat) (kv : KV2) (cs : CS2) (N : Nat) (hN : N ≤ 1000000) (d : Nat) (key s : List UInt8) (R : Option (List UInt8)) (W : World) (h : Po B b m cb false kv cs W) (hR : exD kv N d [key] s = some R) :
    Calls Tryz.prog 63 #[.pointer (some ⟨b, 0, none⟩), .string (txt key), .string (txt s)] W (RetP R W) := by
  obtain ⟨_, _, _, _, vk, vc, ho, hm, hn, _⟩ := h
  have c0 : W.cell? ⟨b, 0, none⟩ = some (.string ⟨#[36, 123]⟩) := by simp [World.cell?, ho]
  have c1 : W.cell? ⟨b, 1, none⟩ = some (.string ⟨#[125]⟩) := by simp [World.cell?, ho]
  have c3 : W.cell? ⟨b, 3, none⟩ = some (.map (some m)) := by simp [World.cell?, ho]
  have hbl := lt_of_some ho
  have hml := hm.lt
  have C : Hid (Calls Tryz.prog 72 #[.string (txt s), .slice (some ⟨W.heap.size, 0, none⟩) 1 1, .string ⟨#[36, 123]⟩, .string ⟨#[125]⟩, .map (some m)] (W.drew.alloc (.cells #[.string (txt key)] 9)) (ExpP W.heap.size (.slice (some ⟨W.heap.size, 0, none⟩) 1 1) 1 [key] R (W.drew.alloc (.cells #[.string (txt key)] 9)))) :=
    expand_any W.heap.size m kv hn N hN d [key] s R _ _ hR (hm.of (al_old W.drew _ _ hml)) (own_one W.drew (txt key)) (by simp) (by simp)
  clear ho hm hn hR
  have C2 : Hid (Calls Tryz.prog 72 #[.string (txt s), .slice (some ⟨W.heap.size, 0, none⟩) 1 1, .string ⟨#[36, 123]⟩, .string ⟨#[125]⟩, .map (some m)] (W.drew.alloc (.cells #[.string (txt key)] 9)) fun e w' => ∃ rs ev, e = .returned (.tuple #[.string rs, ev]) ∧ RetP R W (.returned (.tuple #[.string rs, ev])) w') := by
    refine C.out.mono ?_
    rintro e w' ⟨he, _, hb, _⟩
    have hb2 : Below W.heap.size W w' := ((Below.refl _ W).drew.alloc (Nat.le_refl _) _).trans hb
    cases R with
    | some r => exact ⟨_, _, he, rfl, hb2⟩
    | none =>
      obtain ⟨a, he⟩ := he
      exact ⟨_, _, he, ⟨a, rfl⟩, hb2⟩
  obtain ⟨P, hP⟩ : ∃ P, RetP R W = P := ⟨_, rfl⟩
  rw [hP] at C2 ⊢
  clear C hP hml
  go_enter Tryz.func63, Tryz.ntmps63
  go_upto_region 3 with fail
  go_region_law (go_simp; go_at_call 72; refine C2.out.mono ?_; rintro e w1 ⟨rs, ev, rfl, hb⟩)
  all_goals
    go_wp2
    go_ret2
    exact hb
end Go.Proofs.YtdfhidnhkeapbaaGreatDoor
