/-
  The plain side: the pause in plain numbers. No Go in sight.
-/
namespace Go.Proofs.Qxb6630375a

/-- The pause after the n-th attempt: the base doubled n-1 times, clipped at the cap. -/
def pz (base cap : Int) (n : Nat) : Int := if base * 2 ^ (n - 1) ≤ cap then base * 2 ^ (n - 1) else cap

theorem pow_pos' (k : Nat) : (1 : Int) ≤ 2 ^ k := Int.pow_pos (by decide)

theorem dbl_nonneg (base : Int) (k : Nat) (h : 0 ≤ base) : 0 ≤ base * 2 ^ k := Int.mul_nonneg h (by have := pow_pos' k; omega)

theorem dbl_succ (base : Int) (k : Nat) : base * 2 ^ (k + 1) = base * 2 ^ k * 2 := by rw [Int.pow_succ, Int.mul_assoc]

theorem dbl_le (base : Int) (a b : Nat) (h : 0 ≤ base) (hab : a ≤ b) : base * 2 ^ a ≤ base * 2 ^ b := by
  induction b with
  | zero => rw [show a = 0 by omega]; omega
  | succ b ih =>
    by_cases e : a = b + 1
    · rw [e]; omega
    · have := ih (by omega)
      rw [dbl_succ]
      have := dbl_nonneg base b h
      omega

theorem pz_le (base cap : Int) (n : Nat) (h : base * 2 ^ (n - 1) ≤ cap) : pz base cap n = base * 2 ^ (n - 1) := if_pos h
theorem pz_gt (base cap : Int) (n : Nat) (h : cap < base * 2 ^ (n - 1)) : pz base cap n = cap := if_neg (by omega)

/-- The early way out: what is doubled passes the cap. -/
theorem pz_early (base cap p : Int) (n i : Nat) (h0 : 0 ≤ base) (hp : p = base * 2 ^ (i - 1)) (hi : 1 ≤ i) (hin : i < n) (hlt : cap < p * 2) : pz base cap n = cap := by
  apply pz_gt
  have h1 := dbl_le base (i - 1 + 1) (n - 1) h0 (by omega)
  rw [dbl_succ, ← hp] at h1
  omega

theorem pz_neg (base cap : Int) (n : Nat) (h0 : 0 ≤ base) (hc : cap < 0) : pz base cap n = cap := by
  apply pz_gt
  have := dbl_nonneg base (n - 1) h0
  omega

theorem pz_one (base cap : Int) : pz base cap 1 = if base ≤ cap then base else cap := by simp [pz]

theorem pz_min (base cap : Int) (n : Nat) (h0 : 0 ≤ base) : pz base cap n ≤ cap ∧ (0 ≤ cap → 0 ≤ pz base cap n) := by
  have := dbl_nonneg base (n - 1) h0
  unfold pz
  split <;> omega

/-- One step more, a cap that is not negative: doubled where that does not pass the cap, else the cap. -/
theorem pz_step_le (base cap : Int) (n : Nat) (h0 : 0 ≤ base) (hc : 0 ≤ cap) (hn : 1 ≤ n) (h : pz base cap n ≤ cap - pz base cap n) : pz base cap (n + 1) = pz base cap n + pz base cap n := by
  have e : base * 2 ^ (n + 1 - 1) = base * 2 ^ (n - 1) * 2 := by rw [← dbl_succ]; congr 2; omega
  have hb := dbl_nonneg base (n - 1) h0
  unfold pz at h ⊢
  rw [e]
  split at h
  · rename_i h1
    rw [if_pos h1, if_pos (by omega)]; omega
  · rename_i h1
    rw [if_neg h1]
    have : cap = 0 := by omega
    subst this
    rw [if_neg (by omega)]; omega

theorem pz_step_gt (base cap : Int) (n : Nat) (h0 : 0 ≤ base) (hn : 1 ≤ n) (h : cap - pz base cap n < pz base cap n) : pz base cap (n + 1) = cap := by
  have e : base * 2 ^ (n + 1 - 1) = base * 2 ^ (n - 1) * 2 := by rw [← dbl_succ]; congr 2; omega
  have hb := dbl_nonneg base (n - 1) h0
  apply pz_gt
  rw [e]
  unfold pz at h
  split at h <;> omega

/-- The cap clips the uncapped pause. -/
theorem pz_clip (base cap top : Int) (n : Nat) (hc : cap ≤ top) : pz base cap n = if cap < pz base top n then cap else pz base top n := by
  by_cases h1 : base * 2 ^ (n - 1) ≤ cap
  · rw [pz_le base cap n h1, pz_le base top n (by omega), if_neg (by omega)]
  · rw [pz_gt base cap n (by omega)]
    by_cases h2 : base * 2 ^ (n - 1) ≤ top
    · rw [pz_le base top n h2, if_pos (by omega)]
    · rw [pz_gt base top n (by omega)]
      split <;> omega

end Go.Proofs.Qxb6630375a
