/- Characters in UTF-8 in plain numbers: what the reference reads, and what the decoder gives. -/
import Derived.Lib.DecodeN
namespace Go.Proofs.YtlfmgidpdmmpkaaGreatDoor
open Go Go.Lib
set_option linter.unusedVariables false
set_option linter.unusedSimpArgs false
/-- The character at the front of a text of n bytes that begins b0 b1 b2 b3, and how many bytes it has, as the reference reckons it. -/
def rnN (n b0 b1 b2 b3 : Nat) : Nat × Nat :=
  if n = 0 then (0, 0)
  else if b0 < 128 then (b0, 1)
  else if 194 ≤ b0 ∧ b0 < 224 then (if n < 2 ∨ b1 / 64 ≠ 2 then (0, 0) else (b0 % 32 * 64 + b1 % 64, 2))
  else if 224 ≤ b0 ∧ b0 < 240 then
    (if n < 3 ∨ b1 / 64 ≠ 2 ∨ b2 / 64 ≠ 2 then (0, 0)
     else if b0 % 16 * 4096 + b1 % 64 * 64 + b2 % 64 < 2048 ∨ (55296 ≤ b0 % 16 * 4096 + b1 % 64 * 64 + b2 % 64 ∧ b0 % 16 * 4096 + b1 % 64 * 64 + b2 % 64 < 57344) then (0, 0)
     else (b0 % 16 * 4096 + b1 % 64 * 64 + b2 % 64, 3))
  else if 240 ≤ b0 ∧ b0 < 245 then
    (if n < 4 ∨ b1 / 64 ≠ 2 ∨ b2 / 64 ≠ 2 ∨ b3 / 64 ≠ 2 then (0, 0)
     else if b0 % 8 * 262144 + b1 % 64 * 4096 + b2 % 64 * 64 + b3 % 64 < 65536 ∨ 1114111 < b0 % 8 * 262144 + b1 % 64 * 4096 + b2 % 64 * 64 + b3 % 64 then (0, 0)
     else (b0 % 8 * 262144 + b1 % 64 * 4096 + b2 % 64 * 64 + b3 % 64, 4))
  else (0, 0)
set_option maxRecDepth 100000 in
set_option maxHeartbeats 4000000 in
theorem rn_decode (n b0 b1 b2 b3 : Nat) (h0 : b0 < 256) (h1 : b1 < 256) (h2 : b2 < 256) (h3 : b3 < 256) (hp : 0 < (rnN n b0 b1 b2 b3).2) : decodeN n b0 b1 b2 b3 = rnN n b0 b1 b2 b3 := by
  revert hp
  unfold rnN decodeN
  repeat' split
  all_goals first | (intro hp; exfalso; simp only [] at hp; omega) | (intro hp; rfl)
set_option maxRecDepth 100000 in
set_option maxHeartbeats 4000000 in
theorem rn_none (n b0 b1 b2 b3 : Nat) (hn : 0 < n) (h0 : b0 < 256) (h1 : b1 < 256) (h2 : b2 < 256) (h3 : b3 < 256) (hp : (rnN n b0 b1 b2 b3).2 = 0) : decodeN n b0 b1 b2 b3 = (65533, 1) := by
  revert hp
  unfold rnN decodeN
  repeat' split
  all_goals first | (intro hp; exfalso; simp only [] at hp; omega) | (intro hp; rfl) | (intro hp; exfalso; omega)
theorem rn_le (n b0 b1 b2 b3 : Nat) : (rnN n b0 b1 b2 b3).2 ≤ n ∧ (rnN n b0 b1 b2 b3).2 ≤ 4 ∧ (128 ≤ b0 → 0 < (rnN n b0 b1 b2 b3).2 → 128 ≤ (rnN n b0 b1 b2 b3).1) ∧ (rnN n b0 b1 b2 b3).1 ≤ 1114111 := by
  unfold rnN
  repeat' split
  all_goals (simp only []; omega)
end Go.Proofs.YtlfmgidpdmmpkaaGreatDoor
