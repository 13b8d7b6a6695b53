/-
  The plain side of the order law. No Go in sight.
-/
import Derived.Test.Qxb6630282aPlain
namespace Go.Proofs.Qxb6630282a

/-- n is the shortest length for x. -/
def Len (x : Int) (n : Nat) : Prop := (x < 248 ∧ n = 1) ∨ (248 ≤ x ∧ 2 ≤ n ∧ n ≤ 9 ∧ x / 256 ^ (n - 1) = 0 ∧ x / 256 ^ (n - 2) ≠ 0)

theorem Len.le {x : Int} {n : Nat} (h : Len x n) : 1 ≤ n ∧ n ≤ 9 := by
  rcases h with h | h <;> omega

/-- r is the lexicographic comparison of the first n values of f with the first m of g. -/
def Cmp (f g : Nat → Int) (n m : Nat) (r : Int) : Prop :=
  (∃ i, i < n ∧ i < m ∧ (∀ j, j < i → f j = g j) ∧ f i < g i ∧ r = -1) ∨
  (∃ i, i < n ∧ i < m ∧ (∀ j, j < i → f j = g j) ∧ g i < f i ∧ r = 1) ∨
  ((∀ j, j < n → j < m → f j = g j) ∧ ((n < m ∧ r = -1) ∨ (m < n ∧ r = 1) ∨ (n = m ∧ r = 0)))

theorem Cmp.swap {f g : Nat → Int} {n m : Nat} {r : Int} (h : Cmp f g n m r) : Cmp g f m n (-r) := by
  rcases h with ⟨i, h1, h2, h3, h4, rfl⟩ | ⟨i, h1, h2, h3, h4, rfl⟩ | ⟨h1, h2⟩
  · exact .inr (.inl ⟨i, h2, h1, fun j hj => (h3 j hj).symm, h4, rfl⟩)
  · exact .inl ⟨i, h2, h1, fun j hj => (h3 j hj).symm, h4, rfl⟩
  · exact .inr (.inr ⟨fun j a b => (h1 j b a).symm, by omega⟩)

theorem div_mono (x y : Int) (m : Nat) (h : x ≤ y) : x / 256 ^ m ≤ y / 256 ^ m := Int.ediv_le_ediv (Int.pow_pos (by decide)) h

theorem div_up (x : Int) (a b : Nat) (hx : 0 ≤ x) (h : a ≤ b) : x / 256 ^ b ≤ x / 256 ^ a := by
  induction b with
  | zero => rw [show a = 0 by omega]; omega
  | succ b ih =>
    by_cases e : a = b + 1
    · rw [e]; omega
    · have := ih (by omega)
      rw [div_succ]
      have h0 := div_nonneg' x b hx
      omega

/-- Equal bytes so far: equal heads of the two numbers. -/
theorem heads (x y : Int) (n : Nat) (hx : x / 256 ^ (n - 1) = 0) (hy : y / 256 ^ (n - 1) = 0) (i : Nat) (h1 : 1 ≤ i) (hi : i ≤ n) (h : ∀ j, j < i → enc n x j = enc n y j) : x / 256 ^ (n - i) = y / 256 ^ (n - i) := by
  induction i with
  | zero => omega
  | succ i ih =>
    by_cases e : i = 0
    · subst e; rw [show n - (0 + 1) = n - 1 by omega, hx, hy]
    · have h2 := ih (by omega) (by omega) (fun j hj => h j (by omega))
      rw [← dec_step x n i (by omega) (by omega), ← dec_step y n i (by omega) (by omega), h2, h i (by omega)]

theorem order_lt (x y : Int) (n m : Nat) (r : Int) (hx0 : 0 ≤ x) (hxy : x < y) (hn : Len x n) (hm : Len y m) (hc : Cmp (enc n x) (enc m y) n m r) : r = -1 := by
  have first : enc n x 0 < enc m y 0 → r = -1 := by
    intro h
    rcases hc with ⟨i, h1, h2, h3, h4, rfl⟩ | ⟨i, h1, h2, h3, h4, rfl⟩ | ⟨h1, h2⟩
    · rfl
    · rcases Nat.eq_zero_or_pos i with rfl | hi
      · omega
      · have := h3 0 hi; omega
    · have := h1 0 (by have := hn.le; omega) (by have := hm.le; omega); omega
  rcases hn with ⟨a1, rfl⟩ | ⟨a1, a2, a3, a4, a5⟩
  · apply first
    rw [enc_one]
    rcases hm with ⟨b1, rfl⟩ | ⟨b1, b2, b3, b4, b5⟩
    · rw [enc_one]; omega
    · rw [enc_head m y (by omega)]; omega
  · rcases hm with ⟨b1, rfl⟩ | ⟨b1, b2, b3, b4, b5⟩
    · omega
    · have hnm : n ≤ m := by
        rcases Nat.lt_or_ge m n with h | h
        · have h1 := div_up x (m - 1) (n - 2) hx0 (by omega)
          have h2 := div_mono x y (m - 1) (by omega)
          have h3 := div_nonneg' x (n - 2) hx0
          omega
        · exact h
      by_cases e : n = m
      · subst e
        rcases hc with ⟨i, h1, h2, h3, h4, rfl⟩ | ⟨i, h1, h2, h3, h4, rfl⟩ | ⟨h1, h2⟩
        · rfl
        · rcases Nat.eq_zero_or_pos i with rfl | hi
          · rw [enc_head n x (by omega), enc_head n y (by omega)] at h4; omega
          · have he := heads x y n a4 b4 i hi (by omega) h3
            have d1 := dec_step x n i hi (by omega)
            have d2 := dec_step y n i hi (by omega)
            have h5 := div_mono x y (n - (i + 1)) (by omega)
            rw [he] at d1
            omega
        · have he := heads x y n a4 b4 n (by omega) (Nat.le_refl _) (fun j hj => h1 j hj hj)
          rw [Nat.sub_self, div_zero', div_zero'] at he
          omega
      · apply first
        rw [enc_head n x (by omega), enc_head m y (by omega)]
        omega

theorem order_eq (x : Int) (n m : Nat) (r : Int) (hx0 : 0 ≤ x) (hn : Len x n) (hm : Len x m) (hc : Cmp (enc n x) (enc m x) n m r) : r = 0 := by
  have e : n = m := by
    rcases hn with ⟨a1, rfl⟩ | ⟨a1, a2, a3, a4, a5⟩
    · rcases hm with ⟨b1, rfl⟩ | ⟨b1, b2, b3, b4, b5⟩ <;> omega
    · rcases hm with ⟨b1, rfl⟩ | ⟨b1, b2, b3, b4, b5⟩
      · omega
      · rcases Nat.lt_trichotomy n m with h | h | h
        · have h1 := div_up x (n - 1) (m - 2) hx0 (by omega)
          have h3 := div_nonneg' x (m - 2) hx0
          omega
        · exact h
        · have h1 := div_up x (m - 1) (n - 2) hx0 (by omega)
          have h3 := div_nonneg' x (n - 2) hx0
          omega
  subst e
  rcases hc with ⟨i, h1, h2, h3, h4, rfl⟩ | ⟨i, h1, h2, h3, h4, rfl⟩ | ⟨h1, h2⟩ <;> omega

theorem order_gt (x y : Int) (n m : Nat) (r : Int) (hy0 : 0 ≤ y) (hxy : y < x) (hn : Len x n) (hm : Len y m) (hc : Cmp (enc n x) (enc m y) n m r) : r = 1 := by
  have := order_lt y x m n (-r) hy0 hxy hm hn hc.swap
  omega

end Go.Proofs.Qxb6630282a
