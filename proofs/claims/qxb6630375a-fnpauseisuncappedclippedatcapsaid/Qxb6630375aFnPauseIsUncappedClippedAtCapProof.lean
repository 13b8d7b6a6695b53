import Derived.Test.Qxb6630375aA
import Derived.OpenShut
import Derived.ShutString
namespace Go.Proofs.Qxb6630375a.fnPauseIsUncappedClippedAtCap
open Go.ChangeShapes Go.WideShapes Go.ChangeAt Go.RowKit
open Go.ChangeMaps (open_string shut_string)
set_option linter.unusedVariables false

theorem own : ownKnob Try.prog.godebug = none := by kernel_rfl

theorem top_div (b : Int) (k : Nat) : b ≤ 9223372036854775807 / 2 ^ k ↔ b * 2 ^ k ≤ 9223372036854775807 :=
  Int.le_ediv_iff_mul_le (Int.pow_pos (by decide))

theorem sat_le (b : Int) (k : Nat) (h : b * 2 ^ k ≤ 9223372036854775807) : pz b 9223372036854775807 (k + 1) = b * 2 ^ k := pz_le b _ (k + 1) h
theorem sat_gt (b : Int) (k : Nat) (h : 9223372036854775807 < b * 2 ^ k) : pz b 9223372036854775807 (k + 1) = 9223372036854775807 := pz_gt b _ (k + 1) h

theorem sat_63 (b : Int) (k : Nat) (hb : 1 ≤ b) (hk : 63 ≤ k) : 9223372036854775807 < b * 2 ^ k := by
  have h1 := dbl_le b 63 k (by omega) hk
  have h2 : b * 2 ^ 63 = b * 9223372036854775808 := rfl
  omega

set_option maxHeartbeats 1000000 in
/-- b doubled k times, saturated at the greatest int64. -/
theorem sat_any (b : Int) (k : Nat) (kk : Int) (hkk : kk = k) (w : World) (h0 : 0 ≤ b) (h1 : b ≤ 9223372036854775807) (hk : k ≤ 65536) :
    Calls Try.prog 6 #[.int .i64 b, .int .i64 kk] w fun e w' => e = .returned (.int .i64 (pz b 9223372036854775807 (k + 1))) ∧ w = w' := by
  subst hkk
  by_cases hb : b = 0
  · subst hb
    go_enter Try.func6, Try.ntmps6
    go_wp2
    go_ret
    exact ⟨ret_int (by simp [pz]), rfl⟩
  · have hbq : (b == 0) = false := by simpa using hb
    by_cases hk63 : 63 ≤ k
    · have e : Hid (pz b 9223372036854775807 (k + 1) = 9223372036854775807) := sat_gt b k (sat_63 b k (by omega) hk63)
      go_enter Try.func6, Try.ntmps6
      go_wp2
      go_ret
      exact ⟨ret_int e.out.symm, rfl⟩
    · by_cases hbig : 9223372036854775807 / 2 ^ k < b
      · have e : Hid (pz b 9223372036854775807 (k + 1) = 9223372036854775807) := sat_gt b k (by have := top_div b k; omega)
        go_enter Try.func6, Try.ntmps6
        go_wp2
        go_ret
        exact ⟨ret_int e.out.symm, rfl⟩
      · have hle : b * 2 ^ k ≤ 9223372036854775807 := (top_div b k).1 (by omega)
        have hge : 0 ≤ b * 2 ^ k := dbl_nonneg b k h0
        have e : Hid (pz b 9223372036854775807 (k + 1) = b * 2 ^ k) := sat_le b k hle
        go_enter Try.func6, Try.ntmps6
        go_wp2
        go_ret
        exact ⟨ret_int e.out.symm, rfl⟩

set_option maxHeartbeats 2000000 in
/-- The law inside its own bounds. -/
theorem walk_in (base cap : Int) (n : Nat) (w : World) (h0 : 0 ≤ base) (h1 : base ≤ 9223372036854775807) (c0 : -9223372036854775808 ≤ cap) (c1 : cap ≤ 9223372036854775807) (hn1 : 1 ≤ n) (hn2 : n ≤ 65536) :
    Calls Try.prog 4 #[.int .i64 base, .int .i64 cap, .int .i64 n] w fun e w' => e = .returned (.bool true) ∧ Below w.heap.size w w' := by
  have hcl := pz_clip base cap 9223372036854775807 n c1
  have hs : pz base 9223372036854775807 (n - 1 + 1) = pz base 9223372036854775807 n := by rw [Nat.sub_add_cancel hn1]
  obtain ⟨f, hf⟩ : ∃ f, pz base 9223372036854775807 n = f := ⟨_, rfl⟩
  rw [hf] at hcl hs
  by_cases hlt : cap < f
  · rw [if_pos hlt] at hcl
    go_enter Try.func4, Try.ntmps4
    go_wp2_with fail
    refine (zpause_any base cap n _ rfl _ (by omega) (by omega) (by omega) (by omega) (by omega) (by omega)).mono ?_
    rintro e w1 ⟨rfl, hb1⟩
    have HB1 : Hid (Below w.heap.size w w1) := hb1
    clear hb1
    go_wp2_with fail
    refine (zpause_any base 9223372036854775807 n _ rfl _ (by omega) (by omega) (by omega) (by omega) (by omega) (by omega)).mono ?_
    rintro e w2 ⟨rfl, hb2⟩
    have HB2 : Hid (Below w.heap.size w w2) := HB1.out.trans (hb2.mono HB1.out.size)
    clear hb2 HB1
    go_wp2_with fail
    refine (sat_any base (n - 1) _ (by omega) _ h0 h1 (by omega)).mono ?_
    rintro e w3 ⟨rfl, rfl⟩
    go_wp2
    go_ret
    exact ⟨rfl, HB2.out⟩
  · rw [if_neg hlt] at hcl
    go_enter Try.func4, Try.ntmps4
    go_wp2_with fail
    refine (zpause_any base cap n _ rfl _ (by omega) (by omega) (by omega) (by omega) (by omega) (by omega)).mono ?_
    rintro e w1 ⟨rfl, hb1⟩
    have HB1 : Hid (Below w.heap.size w w1) := hb1
    clear hb1
    go_wp2_with fail
    refine (zpause_any base 9223372036854775807 n _ rfl _ (by omega) (by omega) (by omega) (by omega) (by omega) (by omega)).mono ?_
    rintro e w2 ⟨rfl, hb2⟩
    have HB2 : Hid (Below w.heap.size w w2) := HB1.out.trans (hb2.mono HB1.out.size)
    clear hb2 HB1
    go_wp2_with fail
    refine (sat_any base (n - 1) _ (by omega) _ h0 h1 (by omega)).mono ?_
    rintro e w3 ⟨rfl, rfl⟩
    go_wp2
    go_ret
    exact ⟨rfl, HB2.out⟩

theorem walk (a0 : Int) (a1 : Int) (a2 : Int) (w0 : (Lit.int .i64 a0).wf = true) (w1 : (Lit.int .i64 a1).wf = true) (w2 : (Lit.int .i64 a2).wf = true) (w : World) :
    Calls Try.prog 4 #[.int .i64 a0, .int .i64 a1, .int .i64 a2] w fun e w' => e = .returned (.bool true) ∧ Below w.heap.size w w' := by
  have hb0 := bounds_i64 w0
  have hb1 := bounds_i64 w1
  have hb2 := bounds_i64 w2
  clear w0 w1 w2
  by_cases h0 : a0 < 0
  · go_enter Try.func4, Try.ntmps4
    go_wp2
    go_ret
    exact ⟨rfl, Below.refl _ _⟩
  · by_cases h1 : a2 < 1
    · go_enter Try.func4, Try.ntmps4
      go_wp2
      go_ret
      exact ⟨rfl, Below.refl _ _⟩
    · by_cases h2 : 65536 < a2
      · go_enter Try.func4, Try.ntmps4
        go_wp2
        go_ret
        exact ⟨rfl, Below.refl _ _⟩
      · obtain ⟨n, rfl⟩ := Int.eq_ofNat_of_zero_le (show 0 ≤ a2 by omega)
        exact walk_in a0 a1 n w (by omega) (by omega) (by omega) (by omega) (by omega) (by omega)

/-! ### THE ROW's STEP -/
set_option maxRecDepth 100000 in
theorem lifted (os : Os) (started : os.Started) (H : Type) (enc : TypeId × Value → H) :
    ReturnsInHanded {} Try.checked os 4 .any (Rows.fnPauseIsUncappedClippedAtCapSpec.pre6 enc Try.prog Try.f4 Rows.fnPauseIsUncappedClippedAtCapRow.domain false) (Rows.fnPauseIsUncappedClippedAtCapSpec.post enc Try.prog Try.f4 false true false false) := by
  refine returnsInHanded_of_change (C := Try.checked) own started (by kernel_rfl) Try.func4
    (ChangeSpec.witness6 (enc := enc) (C := Try.checked) false ⟨#[], #[.int .i64 0, .int .i64 0, .int .i64 0], []⟩ 8 (by kernel_rfl) (by kernel_rfl) (by kernel_rfl) (by kernel_rfl)) ?_
  intro W base args ds gs before hval0 hW hcnd _
  have hval : ∀ (j : Nat) t v, Try.f4.params[j]? = some t → args[j]? = some v → Value.okWide Try.prog W .any base t v := hval0
  have hW' := hW
  obtain ⟨p, q, hA0, hV, rfl, hfz, hnd⟩ := hW
  have hA : DataW.TrodAll enc Try.prog W 0 (fun _ => true) true Try.f4.params.toList args.toList ds p := hA0
  rw [Try.params4] at hA hval
  obtain ⟨v0, vs0, d0, ds0, p0, q0, hargs, rfl, rfl, h0, r0⟩ := trodAll_cons hA
  obtain ⟨v1, vs1, d1, ds1, p1, q1, rfl, rfl, rfl, h1, r1⟩ := trodAll_cons r0
  obtain ⟨v2, vs2, d2, ds2, p2, q2, rfl, rfl, rfl, h2, r2⟩ := trodAll_cons r1
  obtain ⟨rfl, rfl, rfl⟩ := trodAll_nil r2
  obtain rfl : args = #[v0, v1, v2] := by cases args; simp_all
  obtain ⟨rfl, rfl⟩ := trodVars_none hV
  obtain ⟨a0, rfl, rfl, rfl, w0⟩ := open_int Try.underlying2 (hval 0 2 v0 rfl rfl) h0
  obtain ⟨a1, rfl, rfl, rfl, w1⟩ := open_int Try.underlying2 (hval 1 2 v1 rfl rfl) h1
  obtain ⟨a2, rfl, rfl, rfl, w2⟩ := open_int Try.underlying3 (hval 2 3 v2 rfl rfl) h2
  clear hA0 hval0
  simp only [List.append_nil] at hW'
  refine (walk a0 a1 a2 w0 w1 w2 W).mono fun e W' ⟨he, hg⟩ => ?_
  subst he
  exact ⟨_, rfl, _, _, _, [], _, [], hW', trodAll_mk1 (shut_bool Try.underlying4 _), (trodAll_cons_mk (shut_int Try.underlying2 w0) (trodAll_cons_mk (shut_int Try.underlying2 w1) (trodAll_cons_mk (shut_int Try.underlying3 w2) trodAll_mk0))), rfl, hg.frame _, fun h => by cases h⟩

theorem over : Rows.fnPauseIsUncappedClippedAtCapRow.holds Try.pinned (OpenSpec.ofChange Rows.fnPauseIsUncappedClippedAtCapSpec) :=
  OpenClaim.holds_of_wide 4 Try.f4 rfl rfl rfl rfl rfl rfl rfl ⟨rfl, rfl, rfl, rfl, rfl⟩ rfl rfl rfl rfl rfl (by kernel_rfl) Try.func4 (by kernel_rfl)
    (of_decide_eq_true (by kernel_rfl)) (by unfold Func.isWrapper; first | (rw [if_pos (by decide +kernel)]; kernel_rfl) | (rw [if_neg (by decide +kernel)]; exact ⟨rfl, rfl⟩))
    (fun os started H enc _ => lifted os started H enc)

/-- ████ THE STATEMENT ████ -/
theorem proved : Rows.FnPauseIsUncappedClippedAtCapSaid :=
  over
#print axioms proved
end Go.Proofs.Qxb6630375a.fnPauseIsUncappedClippedAtCap
