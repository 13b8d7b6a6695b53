import Derived.Test.Qxb6630282aA
import Derived.Test.Qxb6630282aOrder
import Derived.OpenShut
import Derived.ShutString
namespace Go.Proofs.Qxb6630282a.fnPutVarU64KeepsOrder
open Go.ChangeShapes Go.WideShapes Go.ChangeAt Go.RowKit
open Go.ChangeMaps (open_string shut_string)
set_option linter.unusedVariables false

theorem own : ownKnob Try.prog.godebug = none := by kernel_rfl

theorem ret_int {k : IntKind} {a b : Int} (h : a = b) : Ending.returned (.int k a) = .returned (.int k b) := by rw [h]

set_option maxHeartbeats 1000000 in
theorem minlen_any (x : Int) (w : World) (hx0 : 0 ≤ x) (hx1 : x ≤ 18446744073709551615) :
    Calls Try.prog 8 #[.int .u64 x] w fun e w' => ∃ n : Nat, e = .returned (.int .i64 n) ∧ Len x n ∧ w = w' := by
  by_cases hlt : x < 248
  · go_enter Try.func8, Try.ntmps8
    go_wp2
    go_ret
    exact ⟨1, rfl, .inl ⟨hlt, rfl⟩, rfl⟩
  · go_enter Try.func8, Try.ntmps8
    go_wp2
    go_loop [3, 4] (fun kv tv => ∃ (k : Nat) (y : Int), k ≤ 8 ∧ kv = .int .i64 k ∧ tv = .int .u64 y ∧ y = x / 256 ^ k ∧ (1 ≤ k → x / 256 ^ (k - 1) ≠ 0)) (fun kv _ => 8 - (intOf kv).toNat)
    case atStart => exact ⟨0, x, by omega, rfl, rfl, (div_zero' x).symm, fun h => absurd h (by omega)⟩
    case round =>
      obtain ⟨k, y, hk, rfl, rfl, hy, hprev⟩ := hrel
      have HY : Hid (y = x / 256 ^ k) := hy
      have HP : Hid (1 ≤ k → x / 256 ^ (k - 1) ≠ 0) := hprev
      have hy0 : 0 ≤ y := by rw [hy]; exact div_nonneg' _ _ hx0
      have hy1 : y ≤ 18446744073709551615 := by rw [hy]; exact Int.le_trans (div_le' _ _ hx0) hx1
      have h8 : k = 8 → y = 0 := by intro e; rw [hy, e]; omega
      have h0 : k = 0 → y = x := by intro e; rw [hy, e, div_zero']
      clear hy hprev
      by_cases hz : y = 0
      · have hk1 : 1 ≤ k := by omega
        have HK : Hid (k = 0 → y = x) := h0
        clear h8 h0
        subst hz
        go_wp2
        go_ret
        refine ⟨k + 1, ret_int (by omega), .inr ⟨by omega, by omega, by omega, ?_, ?_⟩, rfl⟩
        · rw [Nat.add_sub_cancel]; exact HY.out.symm
        · rw [show k + 1 - 2 = k - 1 by omega]; exact HP.out hk1
      · have hk8 : k < 8 := by omega
        have hzq : (y != 0) = true := by simpa using hz
        clear h8 h0
        go_wp2
        go_round
        case rel => exact ⟨k + 1, y / 256, by omega, by go_num, rfl, by rw [div_succ, ← HY.out], fun _ => by rw [Nat.add_sub_cancel, ← HY.out]; exact hz⟩
        case measure => simp [intOf]; omega

set_option maxHeartbeats 2000000 in
theorem compare_any (f g : Nat → Int) (n m g1 g2 : Nat) (w : World) (hn : n ≤ 9) (hm : m ≤ 9) (h1 : ∀ j, j < n → w.cell? ⟨g1, j, none⟩ = some (.int .u8 (f j))) (h2 : ∀ j, j < m → w.cell? ⟨g2, j, none⟩ = some (.int .u8 (g j))) :
    Calls Try.prog 9 #[.slice (some ⟨g1, 0, none⟩) n n, .slice (some ⟨g2, 0, none⟩) m m] w fun e w' => ∃ r : Int, e = .returned (.int .i64 r) ∧ Cmp f g n m r ∧ ∃ nd, w' = w.drewN nd := by
  have H1 : Hid (∀ j, j < n → w.cell? ⟨g1, j, none⟩ = some (.int .u8 (f j))) := h1
  have H2 : Hid (∀ j, j < m → w.cell? ⟨g2, j, none⟩ = some (.int .u8 (g j))) := h2
  clear h1 h2
  go_enter Try.func9, Try.ntmps9
  go_wp2
  go_loopw [5] (fun iv wr => ∃ k : Nat, k ≤ n ∧ k ≤ m ∧ iv = .int .i64 k ∧ (∀ j, j < k → f j = g j) ∧ ∃ nd, wr = w.drewN nd) (fun iv _ => n - (intOf iv).toNat)
  case atStart => exact ⟨0, by omega, by omega, rfl, fun j hj => absurd hj (by omega), 0, rfl⟩
  case round =>
    obtain ⟨k, hk, hkm, rfl, heq, nd, rfl⟩ := hrel
    have HE : Hid (∀ j, j < k → f j = g j) := heq
    clear heq
    by_cases hkn : k < n
    · by_cases hkm' : k < m
      · obtain ⟨u, hu⟩ : ∃ u, u = f k := ⟨_, rfl⟩
        obtain ⟨v, hv⟩ : ∃ v, v = g k := ⟨_, rfl⟩
        have c1 : w.cell? ⟨g1, k, none⟩ = some (.int .u8 u) := by rw [hu]; exact H1.out k hkn
        have c2 : w.cell? ⟨g2, k, none⟩ = some (.int .u8 v) := by rw [hv]; exact H2.out k hkm'
        have HU : Hid (u = f k) := hu
        have HV : Hid (v = g k) := hv
        clear hu hv
        by_cases hlt : u < v
        · go_wp2
          go_quiet (fail)
          go_wp2
          go_ret
          exact ⟨-1, rfl, .inl ⟨k, hkn, hkm', HE.out, by rw [← HU.out, ← HV.out]; exact hlt, rfl⟩, by simp only [World.drewN_drewN]; exact ⟨_, rfl⟩⟩
        · by_cases hgt : v < u
          · go_wp2
            go_quiet (fail)
            go_wp2
            go_quiet (fail)
            go_wp2
            go_ret
            exact ⟨1, rfl, .inr (.inl ⟨k, hkn, hkm', HE.out, by rw [← HU.out, ← HV.out]; exact hgt, rfl⟩), by simp only [World.drewN_drewN]; exact ⟨_, rfl⟩⟩
          · have huv : Hid (u = v) := by show u = v; omega
            go_wp2
            go_quiet (fail)
            go_wp2
            go_quiet (fail)
            go_wp2
            go_roundw
            case rel =>
              refine ⟨k + 1, by omega, by omega, by go_num, fun j hj => ?_, _, rfl⟩
              by_cases e : j = k
              · subst e; rw [← HU.out, ← HV.out]; exact huv.out
              · exact HE.out j (by omega)
            case measure => simp [intOf]; omega
      · have hall : Hid (∀ j, j < n → j < m → f j = g j) := fun j a b => HE.out j (by omega)
        have hmn : m < n := by omega
        go_wp2
        go_ret
        exact ⟨1, rfl, .inr (.inr ⟨hall.out, by omega⟩), _, rfl⟩
    · have hall : Hid (∀ j, j < n → j < m → f j = g j) := fun j a b => HE.out j (by omega)
      by_cases hnm : n < m
      · go_wp2
        go_ret
        exact ⟨-1, rfl, .inr (.inr ⟨hall.out, by omega⟩), _, rfl⟩
      · have hmn : m ≤ n := by omega
        go_wp2
        go_ret
        exact ⟨0, rfl, .inr (.inr ⟨hall.out, by omega⟩), _, rfl⟩

theorem holds_kept {w w' : World} {base g n : Nat} {x : Int} {r : Option Nat} (h : Holds w base g n x) (hg : w.grownBy w' r) (hne : some g ≠ r) : Holds w' base g n x := by
  obtain ⟨ys, ho, hy⟩ := h
  exact ⟨ys, ho.kept hg (.inr hne), hy⟩

set_option maxHeartbeats 2000000 in
theorem walk (a0 : Int) (a1 : Int) (w0 : (Lit.int .u64 a0).wf = true) (w1 : (Lit.int .u64 a1).wf = true) (w : World) :
    Calls Try.prog 4 #[.int .u64 a0, .int .u64 a1] w fun e w' => e = .returned (.bool true) ∧ Below w.heap.size w w' := by
  obtain ⟨i0, hi, hz0, hz1, hz2⟩ := info_parts Try.info5
  have HI : Hid (Try.prog.info? 5 = some i0 ∧ i0.zero = some (.int .u8 0) ∧ i0.size = 1 ∧ i0.bytes = 1) := ⟨hi, hz0, hz1, hz2⟩
  have hb0 := bounds_u64 w0
  have hb1 := bounds_u64 w1
  clear w0 w1 hi hz0 hz1 hz2
  go_enter Try.func4, Try.ntmps4
  go_wp2_with fail
  refine (minlen_any a0 _ (by omega) (by omega)).mono ?_
  rintro e w' ⟨n, rfl, hn, rfl⟩
  have hn9 := hn.le
  have HN : Hid (Len a0 n) := hn
  clear hn
  go_wp2_with fail
  refine (minlen_any a1 _ (by omega) (by omega)).mono ?_
  rintro e w' ⟨m, rfl, hm, rfl⟩
  have hm9 := hm.le
  have HM : Hid (Len a1 m) := hm
  clear hm
  go_wp2_with (at_make; refine wpList_make_full _ rfl _ _ 22 rfl w.heap.size 5 i0 (.int .u8 0) 1 Try.underlying22 HI.out.1 HI.out.2.1 HI.out.2.2.1 _ _ _ _ n rfl rfl (by omega) (by omega) (by rw [HI.out.2.2.2]; omega) (by unfold maxLen; omega) (Nat.le_refl _) ?_)
  intro wa hown hgrow
  have HA : Hid (wa.ownsRow w.heap.size 5 1 (.slice (some ⟨w.heap.size, 0, none⟩) n n) n (madeCells #[.int .u8 0] n).toList) := hown
  have HBA : Hid (Below w.heap.size w wa) := (Below.refl _ _).grown hgrow (Nat.le_refl _) (fun k hk => by cases hk)
  have hsa : w.heap.size < wa.heap.size := (hown.lt _ rfl).2
  clear hown hgrow
  go_wp2_with (at_make; refine wpList_make_full _ rfl _ _ 22 rfl w.heap.size 5 i0 (.int .u8 0) 1 Try.underlying22 HI.out.1 HI.out.2.1 HI.out.2.2.1 _ _ _ _ m rfl rfl (by omega) (by omega) (by rw [HI.out.2.2.2]; omega) (by unfold maxLen; omega) (by omega) ?_)
  intro wb hown hgrow
  have HB : Hid (wb.ownsRow w.heap.size 5 1 (.slice (some ⟨wa.heap.size, 0, none⟩) m m) m (madeCells #[.int .u8 0] m).toList) := hown
  have HA2 : Hid (wb.ownsRow w.heap.size 5 1 (.slice (some ⟨w.heap.size, 0, none⟩) n n) n (madeCells #[.int .u8 0] n).toList) := HA.out.kept hgrow (.inr (by simp [Value.ownBlock]))
  have HBB : Hid (Below w.heap.size w wb) := HBA.out.grown hgrow (by omega) (fun k hk => by cases hk)
  clear hown hgrow HA HBA
  go_wp2_with fail
  refine (zput_any w.heap.size w.heap.size n _ a0 _ HA2.out (by omega) (by omega) (by omega) (by omega)).mono ?_
  rintro e wc ⟨rfl, hg, hh⟩
  have HC : Hid (Holds wc w.heap.size w.heap.size n a0) := hh
  have HB2 : Hid (wc.ownsRow w.heap.size 5 1 (.slice (some ⟨wa.heap.size, 0, none⟩) m m) m (madeCells #[.int .u8 0] m).toList) := HB.out.kept hg (.inr (by simp [Value.ownBlock]; omega))
  have HBC : Hid (Below w.heap.size w wc) := HBB.out.grown hg HBB.out.size (fun k hk => by cases hk; exact Nat.le_refl _)
  clear hg hh HB HA2 HBB
  go_wp2_with fail
  refine (zput_any w.heap.size wa.heap.size m _ a1 _ HB2.out (by omega) (by omega) (by omega) (by omega)).mono ?_
  rintro e wd ⟨rfl, hg, hh⟩
  have HD : Hid (Holds wd w.heap.size wa.heap.size m a1) := hh
  have HC2 : Hid (Holds wd w.heap.size w.heap.size n a0) := holds_kept HC.out hg (by simp; omega)
  have HBD : Hid (Below w.heap.size w wd) := HBC.out.grown hg HBC.out.size (fun k hk => by cases hk; omega)
  clear hg hh HC HB2 HBC
  rcases Int.lt_trichotomy a0 a1 with hlt | heq | hgt
  · go_wp2_with fail
    refine (compare_any (enc n a0) (enc m a1) n m w.heap.size wa.heap.size _ (by omega) (by omega) (fun j hj => HC2.out.cell j hj) (fun j hj => HD.out.cell j hj)).mono ?_
    rintro e we ⟨r, rfl, hc, nd, rfl⟩
    obtain rfl := order_lt a0 a1 n m r (by omega) hlt HN.out HM.out hc
    clear hc
    go_wp2
    go_ret
    exact ⟨rfl, HBD.out.trans ⟨rfl, rfl, rfl, Nat.le_refl _, fun _ _ => rfl⟩⟩
  · subst heq
    go_wp2_with fail
    refine (compare_any (enc n a0) (enc m a0) n m w.heap.size wa.heap.size _ (by omega) (by omega) (fun j hj => HC2.out.cell j hj) (fun j hj => HD.out.cell j hj)).mono ?_
    rintro e we ⟨r, rfl, hc, nd, rfl⟩
    obtain rfl := order_eq a0 n m r (by omega) HN.out HM.out hc
    clear hc
    go_wp2
    go_ret
    exact ⟨rfl, HBD.out.trans ⟨rfl, rfl, rfl, Nat.le_refl _, fun _ _ => rfl⟩⟩
  · go_wp2_with fail
    refine (compare_any (enc n a0) (enc m a1) n m w.heap.size wa.heap.size _ (by omega) (by omega) (fun j hj => HC2.out.cell j hj) (fun j hj => HD.out.cell j hj)).mono ?_
    rintro e we ⟨r, rfl, hc, nd, rfl⟩
    obtain rfl := order_gt a0 a1 n m r (by omega) hgt HN.out HM.out hc
    clear hc
    go_wp2
    go_ret
    exact ⟨rfl, HBD.out.trans ⟨rfl, rfl, rfl, Nat.le_refl _, fun _ _ => rfl⟩⟩

/-! ### THE ROW's STEP -/
set_option maxRecDepth 100000 in
theorem lifted (os : Os) (started : os.Started) (H : Type) (enc : TypeId × Value → H) :
    ReturnsInHanded {} Try.checked os 4 .any (Rows.fnPutVarU64KeepsOrderSpec.pre6 enc Try.prog Try.f4 Rows.fnPutVarU64KeepsOrderRow.domain false) (Rows.fnPutVarU64KeepsOrderSpec.post enc Try.prog Try.f4 false true false false) := by
  refine returnsInHanded_of_change (C := Try.checked) own started (by kernel_rfl) Try.func4
    (ChangeSpec.witness6 (enc := enc) (C := Try.checked) false ⟨#[], #[.int .u64 0, .int .u64 0], []⟩ 8 (by kernel_rfl) (by kernel_rfl) (by kernel_rfl) (by kernel_rfl)) ?_
  intro W base args ds gs before hval0 hW hcnd _
  have hval : ∀ (j : Nat) t v, Try.f4.params[j]? = some t → args[j]? = some v → Value.okWide Try.prog W .any base t v := hval0
  have hW' := hW
  obtain ⟨p, q, hA0, hV, rfl, hfz, hnd⟩ := hW
  have hA : DataW.TrodAll enc Try.prog W 0 (fun _ => true) true Try.f4.params.toList args.toList ds p := hA0
  rw [Try.params4] at hA hval
  obtain ⟨v0, vs0, d0, ds0, p0, q0, hargs, rfl, rfl, h0, r0⟩ := trodAll_cons hA
  obtain ⟨v1, vs1, d1, ds1, p1, q1, rfl, rfl, rfl, h1, r1⟩ := trodAll_cons r0
  obtain ⟨rfl, rfl, rfl⟩ := trodAll_nil r1
  obtain rfl : args = #[v0, v1] := by cases args; simp_all
  obtain ⟨rfl, rfl⟩ := trodVars_none hV
  obtain ⟨a0, rfl, rfl, rfl, w0⟩ := open_int Try.underlying23 (hval 0 23 v0 rfl rfl) h0
  obtain ⟨a1, rfl, rfl, rfl, w1⟩ := open_int Try.underlying23 (hval 1 23 v1 rfl rfl) h1
  clear hA0 hval0
  simp only [List.append_nil] at hW'
  refine (walk a0 a1 w0 w1 W).mono fun e W' ⟨he, hg⟩ => ?_
  subst he
  exact ⟨_, rfl, _, _, _, [], _, [], hW', trodAll_mk1 (shut_bool Try.underlying4 _), (trodAll_cons_mk (shut_int Try.underlying23 w0) (trodAll_cons_mk (shut_int Try.underlying23 w1) trodAll_mk0)), rfl, hg.frame _, fun h => by cases h⟩

theorem over : Rows.fnPutVarU64KeepsOrderRow.holds Try.pinned (OpenSpec.ofChange Rows.fnPutVarU64KeepsOrderSpec) :=
  OpenClaim.holds_of_wide 4 Try.f4 rfl rfl rfl rfl rfl rfl rfl ⟨rfl, rfl, rfl, rfl, rfl⟩ rfl rfl rfl rfl rfl (by kernel_rfl) Try.func4 (by kernel_rfl)
    (of_decide_eq_true (by kernel_rfl)) (by unfold Func.isWrapper; first | (rw [if_pos (by decide +kernel)]; kernel_rfl) | (rw [if_neg (by decide +kernel)]; exact ⟨rfl, rfl⟩))
    (fun os started H enc _ => lifted os started H enc)

/-- ████ THE STATEMENT ████ -/
theorem proved : Rows.FnPutVarU64KeepsOrderSaid :=
  over
#print axioms proved
end Go.Proofs.Qxb6630282a.fnPutVarU64KeepsOrder
