import Derived.Test.Qxb6630375aRows
import Derived.Test.Qxb6630375aPlain
import Derived.WalkKit
import Derived.ProofKit
import Derived.Handy
import Derived.WalkSpells
import Derived.WalkLawsBesides
namespace Go.Proofs.Qxb6630375a
open Go.ChangeShapes Go.WideShapes Go.ChangeAt Go.RowKit
set_option linter.unusedVariables false

theorem ret_int {k : IntKind} {a b : Int} (h : a = b) : Ending.returned (.int k a) = .returned (.int k b) := by rw [h]

set_option maxHeartbeats 1000000 in
theorem pause_any (base cap : Int) (n : Nat) (w : World) (h0 : 0 ≤ base) (h1 : base ≤ 9223372036854775807) (c0 : -9223372036854775808 ≤ cap) (c1 : cap ≤ 9223372036854775807) (hn1 : 1 ≤ n) (hn2 : n ≤ 65537) :
    Calls Try.prog 7 #[.agg #[.int .i64 base, .int .i64 cap], .int .i64 n] w fun e w' => e = .returned (.int .i64 (pz base cap n)) ∧ Below w.heap.size w w' := by
  by_cases hc : 0 ≤ cap
  · go_enter Try.func7, Try.ntmps7
    go_wp2
    go_loop [5, 6] (fun pv iv => ∃ (i : Nat) (p : Int), 1 ≤ i ∧ i ≤ n ∧ iv = .int .i64 i ∧ pv = .int .i64 p ∧ p = base * 2 ^ (i - 1) ∧ 0 ≤ p ∧ p ≤ 9223372036854775807) (fun _ iv => n - (intOf iv).toNat)
    case atStart => exact ⟨1, base, by omega, by omega, rfl, rfl, by simp, h0, h1⟩
    case round =>
      obtain ⟨i, p, hi1, hi2, rfl, rfl, hp, hp0, hp1⟩ := hrel
      have HP : Hid (p = base * 2 ^ (i - 1)) := hp
      clear hp
      by_cases hlt : i < n
      · by_cases hgt : cap / 2 < p
        · go_wp2
          go_ret
          exact ⟨ret_int (pz_early base cap p n i h0 HP.out hi1 hlt (by omega)).symm, (Below.refl _ _).alloc (Nat.le_refl _) _⟩
        · go_wp2
          go_round
          case rel => exact ⟨i + 1, p * 2, by omega, hlt, by go_num, rfl, by rw [HP.out, ← dbl_succ]; congr 2; omega, by omega, by omega⟩
          case measure => simp [intOf]; omega
      · obtain rfl : i = n := by omega
        by_cases hpc : p ≤ cap
        · have e : Hid (pz base cap i = p) := by show _ = _; rw [pz_le base cap i (by rw [← HP.out]; exact hpc), ← HP.out]
          go_wp2
          all_goals go_ret
          all_goals exact ⟨ret_int (by have := e.out; omega), (Below.refl _ _).alloc (Nat.le_refl _) _⟩
        · have e : Hid (pz base cap i = cap) := by show _ = _; exact pz_gt base cap i (by rw [← HP.out]; omega)
          go_wp2
          all_goals go_ret
          all_goals exact ⟨ret_int (by have := e.out; omega), (Below.refl _ _).alloc (Nat.le_refl _) _⟩
  · have e : Hid (pz base cap n = cap) := pz_neg base cap n h0 (by omega)
    have ht : cap.tdiv 2 ≤ 0 := by
      have := Int.tdiv_nonneg (a := -cap) (b := 2) (by omega) (by omega)
      rw [Int.neg_tdiv] at this
      omega
    go_enter Try.func7, Try.ntmps7
    go_wp2
    go_loop [5, 6] (fun pv iv => ∃ (i : Nat) (p : Int), 1 ≤ i ∧ i ≤ n ∧ iv = .int .i64 i ∧ pv = .int .i64 p ∧ 0 ≤ p ∧ p ≤ 9223372036854775807) (fun _ iv => n - (intOf iv).toNat)
    case atStart => exact ⟨1, base, by omega, by omega, rfl, rfl, h0, h1⟩
    case round =>
      obtain ⟨i, p, hi1, hi2, rfl, rfl, hp0, hp1⟩ := hrel
      by_cases hlt : i < n
      · by_cases hgt : cap.tdiv 2 < p
        · go_wp2
          go_ret
          exact ⟨ret_int e.out.symm, (Below.refl _ _).alloc (Nat.le_refl _) _⟩
        · go_wp2
          go_round
          case rel => exact ⟨i + 1, p * 2, by omega, hlt, by go_num, rfl, by omega, by omega⟩
          case measure => simp [intOf]; omega
      · go_wp2
        all_goals go_ret
        all_goals exact ⟨ret_int (by have := e.out; omega), (Below.refl _ _).alloc (Nat.le_refl _) _⟩

set_option maxHeartbeats 400000 in
theorem zpause_any (base cap : Int) (n : Nat) (nn : Int) (hnn : nn = n) (w : World) (h0 : 0 ≤ base) (h1 : base ≤ 9223372036854775807) (c0 : -9223372036854775808 ≤ cap) (c1 : cap ≤ 9223372036854775807) (hn1 : 1 ≤ n) (hn2 : n ≤ 65537) :
    Calls Try.prog 5 #[.int .i64 base, .int .i64 cap, .int .i64 nn] w fun e w' => e = .returned (.int .i64 (pz base cap n)) ∧ Below w.heap.size w w' := by
  subst hnn
  go_enter Try.func5, Try.ntmps5
  go_wp2_with fail
  refine (pause_any base cap n _ h0 h1 c0 c1 hn1 hn2).mono ?_
  rintro e w' ⟨rfl, hb⟩
  have HB : Hid (Below w.heap.size w w') := hb
  clear hb
  go_wp2
  go_ret
  exact ⟨rfl, HB.out⟩
end Go.Proofs.Qxb6630375a
