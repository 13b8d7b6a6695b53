import Derived.Test.Qxb6630375aA
import Derived.OpenShut
import Derived.ShutString
namespace Go.Proofs.Qxb6630375a.fnPauseStepDoublesUpToCap
open Go.ChangeShapes Go.WideShapes Go.ChangeAt Go.RowKit
open Go.ChangeMaps (open_string shut_string)
set_option linter.unusedVariables false

theorem own : ownKnob Try.prog.godebug = none := by kernel_rfl

set_option maxHeartbeats 2000000 in
/-- The law inside its own bounds. -/
theorem walk_in (base cap : Int) (n : Nat) (w : World) (h0 : 0 ≤ base) (h1 : base ≤ 9223372036854775807) (c0 : -9223372036854775808 ≤ cap) (c1 : cap ≤ 9223372036854775807) (hn1 : 1 ≤ n) (hn2 : n ≤ 65536) :
    Calls Try.prog 3 #[.int .i64 base, .int .i64 cap, .int .i64 n] w fun e w' => e = .returned (.bool true) ∧ Below w.heap.size w w' := by
  obtain ⟨p, hp⟩ : ∃ p, pz base cap n = p := ⟨_, rfl⟩
  obtain ⟨hp1, hp2⟩ := pz_min base cap n h0
  rw [hp] at hp1 hp2
  by_cases hneg : cap < 0
  · have hf : pz base cap 1 = cap := pz_neg base cap 1 h0 hneg
    have hq : pz base cap (n + 1) = cap := pz_neg base cap (n + 1) h0 hneg
    clear hp2
    go_enter Try.func3, Try.ntmps3
    go_wp2_with fail
    refine (zpause_any base cap 1 _ rfl _ (by omega) (by omega) (by omega) (by omega) (by omega) (by omega)).mono ?_
    rintro e w1 ⟨rfl, hb1⟩
    have HB1 : Hid (Below w.heap.size w w1) := hb1
    clear hb1
    go_wp2_with fail
    refine (zpause_any base cap n _ rfl _ (by omega) (by omega) (by omega) (by omega) (by omega) (by omega)).mono ?_
    rintro e w2 ⟨rfl, hb2⟩
    have HB2 : Hid (Below w.heap.size w w2) := HB1.out.trans (hb2.mono HB1.out.size)
    clear hb2 HB1
    go_wp2_with fail
    refine (zpause_any base cap (n + 1) _ (by omega) _ (by omega) (by omega) (by omega) (by omega) (by omega) (by omega)).mono ?_
    rintro e w3 ⟨rfl, hb3⟩
    have HB3 : Hid (Below w.heap.size w w3) := HB2.out.trans (hb3.mono HB2.out.size)
    clear hb3 HB2
    go_wp2
    go_ret
    exact ⟨rfl, HB3.out⟩
  · have hpp : 0 ≤ p := hp2 (by omega)
    clear hp2
    have hq : (p ≤ cap - p ∧ pz base cap (n + 1) = p + p) ∨ (cap - p < p ∧ pz base cap (n + 1) = cap) := by
      by_cases h : p ≤ cap - p
      · exact .inl ⟨h, by rw [pz_step_le base cap n h0 (by omega) hn1 (by rw [hp]; exact h), hp]⟩
      · exact .inr ⟨by omega, pz_step_gt base cap n h0 hn1 (by rw [hp]; omega)⟩
    have hf : (cap < base ∧ pz base cap 1 = cap) ∨ (base ≤ cap ∧ pz base cap 1 = base) := by
      rw [pz_one]
      by_cases h : base ≤ cap
      · exact .inr ⟨h, if_pos h⟩
      · exact .inl ⟨by omega, if_neg h⟩
    rcases hf with ⟨hf1, hf⟩ | ⟨hf1, hf⟩ <;> rcases hq with ⟨hq1, hq⟩ | ⟨hq1, hq⟩
    · go_enter Try.func3, Try.ntmps3
      go_wp2_with fail
      refine (zpause_any base cap 1 _ rfl _ (by omega) (by omega) (by omega) (by omega) (by omega) (by omega)).mono ?_
      rintro e w1 ⟨rfl, hb1⟩
      have HB1 : Hid (Below w.heap.size w w1) := hb1
      clear hb1
      go_wp2_with fail
      refine (zpause_any base cap n _ rfl _ (by omega) (by omega) (by omega) (by omega) (by omega) (by omega)).mono ?_
      rintro e w2 ⟨rfl, hb2⟩
      have HB2 : Hid (Below w.heap.size w w2) := HB1.out.trans (hb2.mono HB1.out.size)
      clear hb2 HB1
      go_wp2_with fail
      refine (zpause_any base cap (n + 1) _ (by omega) _ (by omega) (by omega) (by omega) (by omega) (by omega) (by omega)).mono ?_
      rintro e w3 ⟨rfl, hb3⟩
      have HB3 : Hid (Below w.heap.size w w3) := HB2.out.trans (hb3.mono HB2.out.size)
      clear hb3 HB2
      go_wp2
      go_ret
      exact ⟨rfl, HB3.out⟩
    · go_enter Try.func3, Try.ntmps3
      go_wp2_with fail
      refine (zpause_any base cap 1 _ rfl _ (by omega) (by omega) (by omega) (by omega) (by omega) (by omega)).mono ?_
      rintro e w1 ⟨rfl, hb1⟩
      have HB1 : Hid (Below w.heap.size w w1) := hb1
      clear hb1
      go_wp2_with fail
      refine (zpause_any base cap n _ rfl _ (by omega) (by omega) (by omega) (by omega) (by omega) (by omega)).mono ?_
      rintro e w2 ⟨rfl, hb2⟩
      have HB2 : Hid (Below w.heap.size w w2) := HB1.out.trans (hb2.mono HB1.out.size)
      clear hb2 HB1
      go_wp2_with fail
      refine (zpause_any base cap (n + 1) _ (by omega) _ (by omega) (by omega) (by omega) (by omega) (by omega) (by omega)).mono ?_
      rintro e w3 ⟨rfl, hb3⟩
      have HB3 : Hid (Below w.heap.size w w3) := HB2.out.trans (hb3.mono HB2.out.size)
      clear hb3 HB2
      go_wp2
      go_ret
      exact ⟨rfl, HB3.out⟩
    · go_enter Try.func3, Try.ntmps3
      go_wp2_with fail
      refine (zpause_any base cap 1 _ rfl _ (by omega) (by omega) (by omega) (by omega) (by omega) (by omega)).mono ?_
      rintro e w1 ⟨rfl, hb1⟩
      have HB1 : Hid (Below w.heap.size w w1) := hb1
      clear hb1
      go_wp2_with fail
      refine (zpause_any base cap n _ rfl _ (by omega) (by omega) (by omega) (by omega) (by omega) (by omega)).mono ?_
      rintro e w2 ⟨rfl, hb2⟩
      have HB2 : Hid (Below w.heap.size w w2) := HB1.out.trans (hb2.mono HB1.out.size)
      clear hb2 HB1
      go_wp2_with fail
      refine (zpause_any base cap (n + 1) _ (by omega) _ (by omega) (by omega) (by omega) (by omega) (by omega) (by omega)).mono ?_
      rintro e w3 ⟨rfl, hb3⟩
      have HB3 : Hid (Below w.heap.size w w3) := HB2.out.trans (hb3.mono HB2.out.size)
      clear hb3 HB2
      go_wp2
      go_ret
      exact ⟨rfl, HB3.out⟩
    · go_enter Try.func3, Try.ntmps3
      go_wp2_with fail
      refine (zpause_any base cap 1 _ rfl _ (by omega) (by omega) (by omega) (by omega) (by omega) (by omega)).mono ?_
      rintro e w1 ⟨rfl, hb1⟩
      have HB1 : Hid (Below w.heap.size w w1) := hb1
      clear hb1
      go_wp2_with fail
      refine (zpause_any base cap n _ rfl _ (by omega) (by omega) (by omega) (by omega) (by omega) (by omega)).mono ?_
      rintro e w2 ⟨rfl, hb2⟩
      have HB2 : Hid (Below w.heap.size w w2) := HB1.out.trans (hb2.mono HB1.out.size)
      clear hb2 HB1
      go_wp2_with fail
      refine (zpause_any base cap (n + 1) _ (by omega) _ (by omega) (by omega) (by omega) (by omega) (by omega) (by omega)).mono ?_
      rintro e w3 ⟨rfl, hb3⟩
      have HB3 : Hid (Below w.heap.size w w3) := HB2.out.trans (hb3.mono HB2.out.size)
      clear hb3 HB2
      go_wp2
      go_ret
      exact ⟨rfl, HB3.out⟩

theorem walk (a0 : Int) (a1 : Int) (a2 : Int) (w0 : (Lit.int .i64 a0).wf = true) (w1 : (Lit.int .i64 a1).wf = true) (w2 : (Lit.int .i64 a2).wf = true) (w : World) :
    Calls Try.prog 3 #[.int .i64 a0, .int .i64 a1, .int .i64 a2] w fun e w' => e = .returned (.bool true) ∧ Below w.heap.size w w' := by
  have hb0 := bounds_i64 w0
  have hb1 := bounds_i64 w1
  have hb2 := bounds_i64 w2
  clear w0 w1 w2
  by_cases h0 : a0 < 0
  · go_enter Try.func3, Try.ntmps3
    go_wp2
    go_ret
    exact ⟨rfl, Below.refl _ _⟩
  · by_cases h1 : a2 < 1
    · go_enter Try.func3, Try.ntmps3
      go_wp2
      go_ret
      exact ⟨rfl, Below.refl _ _⟩
    · by_cases h2 : 65536 < a2
      · go_enter Try.func3, Try.ntmps3
        go_wp2
        go_ret
        exact ⟨rfl, Below.refl _ _⟩
      · obtain ⟨n, rfl⟩ := Int.eq_ofNat_of_zero_le (show 0 ≤ a2 by omega)
        exact walk_in a0 a1 n w (by omega) (by omega) (by omega) (by omega) (by omega) (by omega)

/-! ### THE ROW's STEP -/
set_option maxRecDepth 100000 in
theorem lifted (os : Os) (started : os.Started) (H : Type) (enc : TypeId × Value → H) :
    ReturnsInHanded {} Try.checked os 3 .any (Rows.fnPauseStepDoublesUpToCapSpec.pre6 enc Try.prog Try.f3 Rows.fnPauseStepDoublesUpToCapRow.domain false) (Rows.fnPauseStepDoublesUpToCapSpec.post enc Try.prog Try.f3 false true false false) := by
  refine returnsInHanded_of_change (C := Try.checked) own started (by kernel_rfl) Try.func3
    (ChangeSpec.witness6 (enc := enc) (C := Try.checked) false ⟨#[], #[.int .i64 0, .int .i64 0, .int .i64 0], []⟩ 8 (by kernel_rfl) (by kernel_rfl) (by kernel_rfl) (by kernel_rfl)) ?_
  intro W base args ds gs before hval0 hW hcnd _
  have hval : ∀ (j : Nat) t v, Try.f3.params[j]? = some t → args[j]? = some v → Value.okWide Try.prog W .any base t v := hval0
  have hW' := hW
  obtain ⟨p, q, hA0, hV, rfl, hfz, hnd⟩ := hW
  have hA : DataW.TrodAll enc Try.prog W 0 (fun _ => true) true Try.f3.params.toList args.toList ds p := hA0
  rw [Try.params3] at hA hval
  obtain ⟨v0, vs0, d0, ds0, p0, q0, hargs, rfl, rfl, h0, r0⟩ := trodAll_cons hA
  obtain ⟨v1, vs1, d1, ds1, p1, q1, rfl, rfl, rfl, h1, r1⟩ := trodAll_cons r0
  obtain ⟨v2, vs2, d2, ds2, p2, q2, rfl, rfl, rfl, h2, r2⟩ := trodAll_cons r1
  obtain ⟨rfl, rfl, rfl⟩ := trodAll_nil r2
  obtain rfl : args = #[v0, v1, v2] := by cases args; simp_all
  obtain ⟨rfl, rfl⟩ := trodVars_none hV
  obtain ⟨a0, rfl, rfl, rfl, w0⟩ := open_int Try.underlying2 (hval 0 2 v0 rfl rfl) h0
  obtain ⟨a1, rfl, rfl, rfl, w1⟩ := open_int Try.underlying2 (hval 1 2 v1 rfl rfl) h1
  obtain ⟨a2, rfl, rfl, rfl, w2⟩ := open_int Try.underlying3 (hval 2 3 v2 rfl rfl) h2
  clear hA0 hval0
  simp only [List.append_nil] at hW'
  refine (walk a0 a1 a2 w0 w1 w2 W).mono fun e W' ⟨he, hg⟩ => ?_
  subst he
  exact ⟨_, rfl, _, _, _, [], _, [], hW', trodAll_mk1 (shut_bool Try.underlying4 _), (trodAll_cons_mk (shut_int Try.underlying2 w0) (trodAll_cons_mk (shut_int Try.underlying2 w1) (trodAll_cons_mk (shut_int Try.underlying3 w2) trodAll_mk0))), rfl, hg.frame _, fun h => by cases h⟩

theorem over : Rows.fnPauseStepDoublesUpToCapRow.holds Try.pinned (OpenSpec.ofChange Rows.fnPauseStepDoublesUpToCapSpec) :=
  OpenClaim.holds_of_wide 3 Try.f3 rfl rfl rfl rfl rfl rfl rfl ⟨rfl, rfl, rfl, rfl, rfl⟩ rfl rfl rfl rfl rfl (by kernel_rfl) Try.func3 (by kernel_rfl)
    (of_decide_eq_true (by kernel_rfl)) (by unfold Func.isWrapper; first | (rw [if_pos (by decide +kernel)]; kernel_rfl) | (rw [if_neg (by decide +kernel)]; exact ⟨rfl, rfl⟩))
    (fun os started H enc _ => lifted os started H enc)

/-- ████ THE STATEMENT ████ -/
theorem proved : Rows.FnPauseStepDoublesUpToCapSaid :=
  over
#print axioms proved
end Go.Proofs.Qxb6630375a.fnPauseStepDoublesUpToCap
