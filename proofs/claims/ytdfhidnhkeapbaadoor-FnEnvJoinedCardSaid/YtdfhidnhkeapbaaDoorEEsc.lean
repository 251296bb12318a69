/- godotenv.doubleQuoteEscape at any text. Condition: the size. -/
import Derived.Test.YtdfhidnhkeapbaaDoorEIdx
namespace Go.Proofs.YtdfhidnhkeapbaaDoor
open Go.RowKit U8
open Go.Lib hiding intOf

theorem esc_sc : ∀ c ∈ escSet, Sc c ∧ c < 128 := by unfold Sc; decide
theorem esc_lit : (⟨#[92, 10, 13, 34, 33, 36, 96]⟩ : ByteArray) = txt (enc escSet) := by decide
theorem enc_small (c : Nat) (h : c < 128) : Utf8.encode (c : Int) = txt [c.toUInt8] := by
  rw [encode_enc1 c (by unfold Sc; omega), enc1_a h]
  rfl
theorem esc_pre (s : List UInt8) : ∀ pre : List Nat, (pre.foldl esc1 s).length ≤ 2 ^ pre.length * s.length := by
  intro pre
  induction pre generalizing s with
  | nil => simp
  | cons c l ih =>
    have h1 := ih (esc1 s c)
    have h2 := Nat.mul_le_mul_left (2 ^ l.length) (esc1_len s c)
    rw [List.foldl_cons, List.length_cons, Nat.pow_succ]
    have e : 2 ^ l.length * (2 * s.length) = 2 ^ l.length * 2 * s.length := by rw [Nat.mul_assoc]
    omega
end Go.Proofs.YtdfhidnhkeapbaaDoor
