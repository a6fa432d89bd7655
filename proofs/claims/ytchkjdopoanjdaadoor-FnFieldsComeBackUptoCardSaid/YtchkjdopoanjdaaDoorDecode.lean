/-
  What the model's decoding of UTF-8 gives, in the words of spec.Rune: plain lemmas, no program.
-/
import Derived.Lib.DecodeN
namespace Go.Proofs.YtchkjdopoanjdaaDoor.runes
open Go.Lib

theorem dec1 (n b0 b1 b2 b3 : Nat) (h : b0 < 128) : decodeN n b0 b1 b2 b3 = (b0, 1) := by unfold decodeN; rw [if_pos h]
theorem decE (n b0 b1 b2 b3 : Nat) (hb : b0 < 256) (h : (128 ≤ b0 ∧ b0 < 192) ∨ 248 ≤ b0) : decodeN n b0 b1 b2 b3 = (65533, 1) := by
  unfold decodeN
  repeat' split
  all_goals first | rfl | (exfalso; omega)
theorem dec2_no (n b0 b1 b2 b3 : Nat) (h1 : b1 < 256) (hb : 192 ≤ b0 ∧ b0 < 224) (h : n < 2 ∨ b1 < 128 ∨ 192 ≤ b1 ∨ (b0 - 192) * 64 + (b1 - 128) < 128) : decodeN n b0 b1 b2 b3 = (65533, 1) := by
  unfold decodeN
  repeat' split
  all_goals first | rfl | (exfalso; omega)
theorem dec2_ok (n b0 b1 b2 b3 : Nat) (hb : 192 ≤ b0 ∧ b0 < 224) (hn : 2 ≤ n) (h1 : 128 ≤ b1 ∧ b1 < 192) (h : 128 ≤ (b0 - 192) * 64 + (b1 - 128)) : decodeN n b0 b1 b2 b3 = ((b0 - 192) * 64 + (b1 - 128), 2) := by
  unfold decodeN
  repeat' split
  all_goals first | (exfalso; omega) | (apply Prod.ext <;> simp only <;> omega)
set_option maxHeartbeats 1000000 in
theorem dec3_no (n b0 b1 b2 b3 : Nat) (h1 : b1 < 256) (h2 : b2 < 256) (hb : 224 ≤ b0 ∧ b0 < 240) (h : n < 3 ∨ b1 < 128 ∨ 192 ≤ b1 ∨ b2 < 128 ∨ 192 ≤ b2 ∨ ((b0 - 224) * 64 + (b1 - 128)) * 64 + (b2 - 128) < 2048 ∨ (55296 ≤ ((b0 - 224) * 64 + (b1 - 128)) * 64 + (b2 - 128) ∧ ((b0 - 224) * 64 + (b1 - 128)) * 64 + (b2 - 128) < 57344)) : decodeN n b0 b1 b2 b3 = (65533, 1) := by
  unfold decodeN
  repeat' split
  all_goals first | rfl | (exfalso; omega)
set_option maxHeartbeats 1000000 in
theorem dec3_ok (n b0 b1 b2 b3 : Nat) (hb : 224 ≤ b0 ∧ b0 < 240) (hn : 3 ≤ n) (h1 : 128 ≤ b1 ∧ b1 < 192) (h2 : 128 ≤ b2 ∧ b2 < 192) (h : 2048 ≤ ((b0 - 224) * 64 + (b1 - 128)) * 64 + (b2 - 128)) (h' : ((b0 - 224) * 64 + (b1 - 128)) * 64 + (b2 - 128) < 55296 ∨ 57344 ≤ ((b0 - 224) * 64 + (b1 - 128)) * 64 + (b2 - 128)) :
    decodeN n b0 b1 b2 b3 = (((b0 - 224) * 64 + (b1 - 128)) * 64 + (b2 - 128), 3) := by
  unfold decodeN
  repeat' split
  all_goals first | (exfalso; omega) | (apply Prod.ext <;> simp only <;> omega)
set_option maxHeartbeats 2000000 in
theorem dec4_no (n b0 b1 b2 b3 : Nat) (h1 : b1 < 256) (h2 : b2 < 256) (h3 : b3 < 256) (hb : 240 ≤ b0 ∧ b0 < 248) (h : n < 4 ∨ b1 < 128 ∨ 192 ≤ b1 ∨ b2 < 128 ∨ 192 ≤ b2 ∨ b3 < 128 ∨ 192 ≤ b3 ∨ (((b0 - 240) * 64 + (b1 - 128)) * 64 + (b2 - 128)) * 64 + (b3 - 128) < 65536 ∨ 1114111 < (((b0 - 240) * 64 + (b1 - 128)) * 64 + (b2 - 128)) * 64 + (b3 - 128)) : decodeN n b0 b1 b2 b3 = (65533, 1) := by
  unfold decodeN
  repeat' split
  all_goals first | rfl | (exfalso; omega)
set_option maxHeartbeats 2000000 in
theorem dec4_ok (n b0 b1 b2 b3 : Nat) (hb : 240 ≤ b0 ∧ b0 < 248) (hn : 4 ≤ n) (h1 : 128 ≤ b1 ∧ b1 < 192) (h2 : 128 ≤ b2 ∧ b2 < 192) (h3 : 128 ≤ b3 ∧ b3 < 192) (h : 65536 ≤ (((b0 - 240) * 64 + (b1 - 128)) * 64 + (b2 - 128)) * 64 + (b3 - 128)) (h' : (((b0 - 240) * 64 + (b1 - 128)) * 64 + (b2 - 128)) * 64 + (b3 - 128) ≤ 1114111) :
    decodeN n b0 b1 b2 b3 = ((((b0 - 240) * 64 + (b1 - 128)) * 64 + (b2 - 128)) * 64 + (b3 - 128), 4) := by
  unfold decodeN
  repeat' split
  all_goals first | (exfalso; omega) | (apply Prod.ext <;> simp only <;> omega)
end Go.Proofs.YtchkjdopoanjdaaDoor.runes
