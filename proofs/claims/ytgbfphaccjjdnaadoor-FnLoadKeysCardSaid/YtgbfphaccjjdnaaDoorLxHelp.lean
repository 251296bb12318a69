/- Helpers of the laws on loading: letters, simple texts, texts that can be seen, texts alike, what a text begins with. Conditions: their lengths. -/
import Derived.Test.YtgbfphaccjjdnaaDoorLxBase
namespace Go.Proofs.YtgbfphaccjjdnaaDoor
open Go.RowKit U8
open Go.Lib hiding intOf

open Go.Lib hiding intOf

open Go.Lib hiding intOf

open Go.Lib hiding intOf

def letN (r : Nat) : Bool := decide ((65 ≤ r ∧ r ≤ 90) ∨ (97 ≤ r ∧ r ≤ 122))
def simB (l : List UInt8) : Bool := l.all (fun b => letN b.toNat || decide (48 ≤ b.toNat ∧ b.toNat ≤ 57)) && decide (0 < l.length)
set_option maxHeartbeats 1600000 in
theorem size_any (l : List (List UInt8)) (v : Value) (w : World) (hT : Tx w v l) (hz : l.length + szs l ≤ 4611686018427387903) :
    Calls Tryd.prog 7 #[v] w fun e w' => e = .returned (.int .i64 (l.length + szs l : Nat)) ∧ w' = w := by
  obtain ⟨ao, cap, rfl, _, hx⟩ := hT
  have HX := Lib.hid hx
  obtain ⟨n, hn⟩ : ∃ n, l.length = n := ⟨_, rfl⟩
  obtain ⟨Z, hZ⟩ : ∃ Z, n + szs l = Z := ⟨_, rfl⟩
  rw [hn] at hz
  rw [hn, hZ]
  rw [hZ] at hz
  have hnz : n ≤ Z := by omega
  have HN := Lib.hid hn
  have HZ := Lib.hid hZ
  clear hx hn hZ
  go_enter Tryd.func7, Tryd.ntmps7
  go_wp2
  go_loopg [3, 5, 10] (n + 1) (fun gk v3 v5 v10 wr => ∃ (k acc : Nat), v10 = .int .i64 k ∧ v3 = .int .i64 acc ∧ k ≤ n ∧ n - k < gk ∧ acc ≤ Z ∧ Hid (Z = acc + szs (l.drop k)) ∧ wr = w)
  case atStart => exact ⟨0, n, rfl, rfl, by omega, by omega, by have := HZ.out; omega, HZ.out.symm, rfl⟩
  case round =>
    obtain ⟨k, acc, rfl, rfl, hk, hg, ha, HR, hwr⟩ := hrel
    obtain rfl := hwr.symm
    by_cases hlt : k < n
    · obtain ⟨gk, rfl⟩ : ∃ m, gk = m + 1 := ⟨gk - 1, by omega⟩
      have hkl : k < l.length := by have := HN.out; omega
      have hx := List.getElem?_eq_getElem hkl
      have hd := List.drop_eq_getElem_cons hkl
      generalize l[k] = x at hx hd
      obtain ⟨g, o1, rfl, cx⟩ := HX.out k x hx
      have HR2 : Hid (Z = acc + x.length + szs (l.drop (k + 1))) := by
        show _ = _
        rw [HR.out, hd, szs_cons]; omega
      have hxl : acc + x.length ≤ Z := by have := HR2.out; omega
      have hts := txt_size x
      clear hx hd HR hkl
      go_wp2
      go_roundg gk
      case rel => exact ⟨k + 1, acc + x.length, by go_num, by (first | go_num | (rw [← hts]; go_num)), by omega, by omega, hxl, HR2.out, rfl⟩
      case measure => omega
    · have HF : Hid (Z = acc) := by
        show _ = _
        rw [HR.out, List.drop_eq_nil_of_le (by have := HN.out; omega)]; rfl
      clear HR
      go_wp2
      go_ret
      exact ⟨by rw [HF.out]; rfl, rfl⟩
def vis (b : UInt8) : Bool := decide (32 ≤ b.toNat ∧ b.toNat < 127)
def seenB (l : List (List UInt8)) : Bool := (l.all fun x => x.all vis) && decide (l.length + szs l ≤ 1000)
end Go.Proofs.YtgbfphaccjjdnaaDoor
