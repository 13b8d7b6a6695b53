/-
  The plain side: what putVarU64 lays in a buffer of n bytes, and its laws. No Go in sight.
-/
namespace Go.Proofs.Qxb6630282a

/-- The byte at place j of the encoding of x in n bytes. -/
def enc (n : Nat) (x : Int) (j : Nat) : Int :=
  if j = 0 then (if n = 1 then x % 256 else 248 + ((n : Int) - 2)) else x / 256 ^ (n - 1 - j) % 256

theorem div_succ (x : Int) (m : Nat) : x / 256 ^ (m + 1) = x / 256 ^ m / 256 := by
  rw [Int.pow_succ, Int.ediv_ediv_of_nonneg (Int.le_of_lt (Int.pow_pos (by decide)))]

theorem div_nonneg' (x : Int) (m : Nat) (h : 0 ≤ x) : 0 ≤ x / 256 ^ m := Int.ediv_nonneg h (Int.le_of_lt (Int.pow_pos (by decide)))

theorem div_le' (x : Int) (m : Nat) (h : 0 ≤ x) : x / 256 ^ m ≤ x := Int.ediv_le_self _ h

theorem div_zero' (x : Int) : x / 256 ^ 0 = x := by simp

theorem enc_head (n : Nat) (x : Int) (h : n ≠ 1) : enc n x 0 = 248 + ((n : Int) - 2) := by simp [enc, h]
theorem enc_one (x : Int) : enc 1 x 0 = x % 256 := by simp [enc]
theorem enc_tail (n : Nat) (x : Int) (j : Nat) (h : j ≠ 0) : enc n x j = x / 256 ^ (n - 1 - j) % 256 := by simp [enc, h]

/-- One round of the decoder: the value so far, times 256, plus the next byte. -/
theorem dec_step (x : Int) (n k : Nat) (hk : 1 ≤ k) (hn : k < n) : x / 256 ^ (n - k) * 256 + enc n x k = x / 256 ^ (n - (k + 1)) := by
  rw [enc_tail n x k (by omega), show n - k = n - (k + 1) + 1 by omega, div_succ, show n - 1 - k = n - (k + 1) by omega]
  omega

theorem pow_two (m : Nat) : (2 : Int) ^ (8 * m) = 256 ^ m := by
  rw [Int.pow_mul]; rfl

end Go.Proofs.Qxb6630282a
