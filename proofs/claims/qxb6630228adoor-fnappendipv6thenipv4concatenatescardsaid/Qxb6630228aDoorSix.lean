import Derived.Test.Qxb6630228aDoorE
import Derived.Test.Qxb6630228aDoorJ
import Derived.Test.Qxb6630228aDoorTie
import Derived.Test.Qxb6630228aDoorCards
namespace Go.Proofs.Qxb6630228aDoor
open Go.ChangeShapes Go.WideShapes Go.ChangeAt Go.RowKit
set_option linter.unusedVariables false

theorem Tryd.cells23 : Tryd.prog.cellsOf 23 = 4 := by kernel_rfl
theorem Tryd.cells27 : Tryd.prog.cellsOf 27 = 16 := by kernel_rfl

theorem of_laid6 {W : World} (h : laidMetH Tryd.prog Rows.fnAppendIPv6ThenIPv4ConcatenatesRow.laid W) :
    ∃ (a b : Addr) (ca cb : Array Value) (ta tb : TypeId), W.cell? ⟨0, 0, none⟩ = some (.pointer (some a)) ∧ W.cell? ⟨1, 0, none⟩ = some (.pointer (some b)) ∧ b ≠ a ∧ W.heap[b.block]? = some (.cells cb tb (0, 0)) ∧ W.heap[a.block]? = some (.cells ca ta (0, 0)) ∧ 3 ≤ W.heap.size := by
  rw [MakeChecks.laidMetH_plain _ _ _ (by kernel_rfl)] at h
  obtain ⟨ps, ⟨g0, t0, cs0, f0, p0, q0, hg0, ht0, hv0, hd0, ⟨g1, t1, cs1, f1, p1, q1, hg1, ht1, hv1, hd1, ⟨g2, t2, cs2, f2, p2, q2, hg2, ht2, hv2, hd2, hq2, e2⟩, e1⟩, e0⟩, hnd, hrows⟩ := h
  obtain rfl := Option.some.inj (Tryd.z4.symm.trans hg0)
  obtain rfl := Option.some.inj (Tryd.z6noz.symm.trans hg1)
  obtain rfl := Option.some.inj (Tryd.z0.symm.trans hg2)
  obtain rfl := Option.some.inj (Tryd.z4Type.symm.trans ht0)
  obtain rfl := Option.some.inj (Tryd.z6nozType.symm.trans ht1)
  obtain rfl := Option.some.inj (Tryd.z0Type.symm.trans ht2)
  obtain ⟨a, qa, hca, hpa⟩ := handle_of_trod hd0
  obtain ⟨b, qb, hcb, hpb⟩ := handle_of_trod hd1
  have h1 := one_of_trod hd2
  obtain ⟨l0⟩ := cs0
  obtain ⟨l1⟩ := cs1
  obtain ⟨l2⟩ := cs2
  simp only at hca hcb h1
  subst hca
  subst hcb
  subst e0
  subst e1
  subst hpa
  subst hpb
  obtain ⟨ca, ta, hba⟩ := (hrows a.block a.off (by simp [MemPlace.row])).1
  obtain ⟨cb, tb, hbb⟩ := (hrows b.block b.off (by simp [MemPlace.row])).1
  refine ⟨a, b, ca, cb, ta, tb, by simpa using World.var?_cell Tryd.z4 hv0 0, by simpa using World.var?_cell Tryd.z6noz hv1 0, ?_, hbb, hba, ?_⟩
  · rintro rfl
    simp [MemPlace.row, show List.range 2 = [0, 1] from rfl] at hnd
  · match l2, h1 with
    | [c], _ =>
      have := World.var?_cell Tryd.z0 hv2 0
      have hlt := World.block_lt_of_cell? W ⟨2, 0, none⟩ (u := c) (by simpa using this)
      simp at hlt
      omega

theorem list4 {xs : List Int} (h : xs.length = 4) : ∃ a b c d, xs = [a, b, c, d] := by
  match xs, h with
  | [a, b, c, d], _ => exact ⟨a, b, c, d, rfl⟩

theorem list16 {xs : List Int} (h : xs.length = 16) : ∃ x0 x1 x2 x3 x4 x5 x6 x7 x8 x9 x10 x11 x12 x13 x14 x15, xs = [x0, x1, x2, x3, x4, x5, x6, x7, x8, x9, x10, x11, x12, x13, x14, x15] := by
  match xs, h with
  | [x0, x1, x2, x3, x4, x5, x6, x7, x8, x9, x10, x11, x12, x13, x14, x15], _ => exact ⟨x0, x1, x2, x3, x4, x5, x6, x7, x8, x9, x10, x11, x12, x13, x14, x15, rfl⟩

set_option maxRecDepth 100000 in
theorem lifted6 (os : Os) (started : os.Started) (H : Type) (enc : TypeId × Value → H) :
    ReturnsInHanded {} Tryd.checked os 4 .any (fun w args => (Rows.fnAppendIPv6ThenIPv4ConcatenatesSpec.pre enc Tryd.prog Tryd.f4 [] false w args ∧ laidMetH Tryd.prog Rows.fnAppendIPv6ThenIPv4ConcatenatesRow.laid w) ∧ sizedMet enc Tryd.prog Tryd.f4 (OpenSpec.ofChange Rows.fnAppendIPv6ThenIPv4ConcatenatesSpec) false w args)
      (Rows.fnAppendIPv6ThenIPv4ConcatenatesSpec.post enc Tryd.prog Tryd.f4 false true false false) := by
  refine returnsInHanded_of_change_and (C := Tryd.checked) (X := fun w _ => laidMetH Tryd.prog Rows.fnAppendIPv6ThenIPv4ConcatenatesRow.laid w) (fun _ _ _ hh h => h.of_heap hh) own started (by kernel_rfl) Tryd.func4
    (ChangeSpec.witness_shaped (enc := enc) (C := Tryd.checked) (os := os) (X := fun w _ => laidMetH Tryd.prog Rows.fnAppendIPv6ThenIPv4ConcatenatesRow.laid w) false (World.laidAll Tryd.prog os Rows.fnAppendIPv6ThenIPv4ConcatenatesRow.laid) #[.slice none 0 0, .agg #[.int .u8 0, .int .u8 0, .int .u8 0, .int .u8 0, .int .u8 0, .int .u8 0, .int .u8 0, .int .u8 0, .int .u8 0, .int .u8 0, .int .u8 0, .int .u8 0, .int .u8 0, .int .u8 0, .int .u8 0, .int .u8 0], .agg #[.int .u8 0, .int .u8 0, .int .u8 0, .int .u8 0]] 8 (World.laidAll_os _ _ _)
      (World.shaped_of_ZipB (by kernel_rfl) (by kernel_rfl)) (by kernel_rfl) (by kernel_rfl) (by kernel_rfl)
      (by rw [MakeChecks.laidMetH_plain _ _ _ (by kernel_rfl)]; exact laidMet_laidAll _ (by kernel_rfl) (by kernel_rfl))) ?_
  intro W base args ds gs before hval0 hW _ _ hL _
  have hval : ∀ (j : Nat) t v, Tryd.f4.params[j]? = some t → args[j]? = some v → Value.okWide Tryd.prog W .any base t v := hval0
  have hW' := hW
  obtain ⟨p, q, hA0, hV, rfl, _, _⟩ := hW
  have hA : DataW.TrodAll enc Tryd.prog W 0 (fun _ => true) true Tryd.f4.params.toList args.toList ds p := hA0
  rw [Tryd.params4] at hA hval
  obtain ⟨v0, vs0, d0, ds0, p0, q0, hargs, rfl, rfl, h0, r0⟩ := trodAll_cons hA
  obtain ⟨v1, vs1, d1, ds1, p1, q1, rfl, rfl, rfl, h1, r1⟩ := trodAll_cons r0
  obtain ⟨v2, vs2, d2, ds2, p2, q2, rfl, rfl, rfl, h2, r2⟩ := trodAll_cons r1
  obtain ⟨rfl, rfl, rfl⟩ := trodAll_nil r2
  obtain rfl : args = #[v0, v1, v2] := by cases args; simp_all
  obtain ⟨rfl, rfl⟩ := trodVars_none hV
  obtain ⟨a0, len0, cap0, rfl⟩ := okWide_slice Tryd.underlying22 (hval 0 22 v0 rfl rfl)
  have k0 := h0
  have k1 := h1
  have k2 := h2
  have lt0 : ∀ x ∈ p0, x.block < W.heap.size := by obtain ⟨m, hm⟩ := k0; exact DataW.trod_lt m _ _ _ hm
  have lt1 : ∀ x ∈ p1, x.block < W.heap.size := by obtain ⟨m, hm⟩ := k1; exact DataW.trod_lt m _ _ _ hm
  have lt2 : ∀ x ∈ p2, x.block < W.heap.size := by obtain ⟨m, hm⟩ := k2; exact DataW.trod_lt m _ _ _ hm
  obtain ⟨z0, hz0, hm0, hn0, hc0⟩ : ∃ zs : List Int, zs.length = len0 ∧ len0 ≤ maxLen ∧ (a0 = none → len0 = 0 ∧ cap0 = 0) ∧ ∀ x, a0 = some x → ∀ j, j < len0 → W.cell? (x.add j) = some (.int .u8 (zs.getD j 0)) := by
    obtain ⟨fuel, hf⟩ := h0
    rcases open_ints Tryd.underlying22 Tryd.underlying5 (by kernel_rfl) hf with ⟨hcs, _⟩ | ⟨x, l, c, zs, hcs, _, hl, hm, hz, _, hcell, hwz⟩
    · simp [Value.cells] at hcs
      obtain ⟨rfl, rfl, rfl⟩ := hcs
      exact ⟨[], rfl, Nat.zero_le _, fun _ => ⟨rfl, rfl⟩, fun x h => by cases h⟩
    · simp [Value.cells] at hcs
      obtain ⟨rfl, rfl, rfl⟩ := hcs
      have hz' : zs.length = cap0 := by simpa using hz
      refine ⟨zs.take len0, by simp; omega, by omega, fun h => (by cases h), ?_⟩
      intro y hy j hj
      cases hy
      rw [hcell j (by omega)]
      simp [List.getD, hj]
  obtain ⟨xs, hxl, rfl, hxb⟩ := open_array Tryd.underlying27 Tryd.cells27 (hval 1 27 v1 rfl rfl) h1
  obtain ⟨cs, hcl, rfl, hcb⟩ := open_array Tryd.underlying23 Tryd.cells23 (hval 2 23 v2 rfl rfl) h2
  obtain ⟨z, z6, ca, cb, ta, tb, hz, hz6, hne, hbb, hba, hsz⟩ := of_laid6 hL
  obtain ⟨x0, x1, x2, x3, x4, x5, x6, x7, x8, x9, x10, x11, x12, x13, x14, x15, rfl⟩ := list16 hxl
  obtain ⟨c0, c1, c2, c3, rfl⟩ := list4 hcl
  simp only [List.mem_cons, List.not_mem_nil, or_false, forall_eq_or_imp, forall_eq] at hxb hcb
  obtain ⟨b0, b1, b2, b3, b4, b5, b6, b7, b8, b9, b10, b11, b12, b13, b14, b15⟩ := hxb
  obtain ⟨e0, e1, e2, e3⟩ := hcb
  clear hA0 hval0
  refine (walk6 a0 len0 cap0 z0 x0 x1 x2 x3 x4 x5 x6 x7 x8 x9 x10 x11 x12 x13 x14 x15 c0 c1 c2 c3 z z6 W hm0 hsz hz0 hn0 hc0 hz hz6 hne hbb hba b0 b1 b2 b3 b4 b5 b6 b7 b8 b9 b10 b11 b12 b13 b14 b15 e0 e1 e2 e3).mono fun e W' ⟨he, bel⟩ => ?_
  subst he
  exact ⟨_, rfl, _, _, _, [], _, [], hW', trodAll_mk1 (shut_bool Tryd.underlying4 _), (trodAll_cons_mk (Below.trod laidOut (by kernel_rfl) (of_decide_eq_true (by kernel_rfl)) k0 bel lt0) (trodAll_cons_mk (Below.trod laidOut (by kernel_rfl) (of_decide_eq_true (by kernel_rfl)) k1 bel lt1) (trodAll_cons_mk (Below.trod laidOut (by kernel_rfl) (of_decide_eq_true (by kernel_rfl)) k2 bel lt2) trodAll_mk0))), rfl, bel.frame _, fun h => by cases h⟩

theorem row6 : Rows.FnAppendIPv6ThenIPv4ConcatenatesSaid :=
  OpenClaim.holds_of_wide 4 Tryd.f4 rfl rfl rfl rfl rfl rfl rfl ⟨rfl, rfl, rfl, rfl, rfl⟩ rfl rfl rfl rfl rfl (by kernel_rfl) Tryd.func4 (by kernel_rfl)
    (of_decide_eq_true (by kernel_rfl)) (by unfold Func.isWrapper; first | (rw [if_pos (by decide +kernel)]; kernel_rfl) | (rw [if_neg (by decide +kernel)]; exact ⟨rfl, rfl⟩))
    (fun os started H enc _ => lifted6 os started H enc)

theorem card6 : Rows.FnAppendIPv6ThenIPv4ConcatenatesCardSaid :=
  Claim7.holds_tied_plain_at .later [] [.called, .called, .zero] true (true, "c0ced91149f4ad3c003f9c62f05d050db1c0e78301ab597f0d00d530fe78bc95") false row6 (fun _ h => by cases h) (by kernel_rfl) (fun _ h => by cases h) fnAppendIPv6ThenIPv4Concatenates_row_tie rfl ⟨rfl, rfl⟩ (by kernel_rfl) rfl
    (fun f fn hf hfn => by
      obtain rfl : f = 4 := Option.some.inj ((show Tryd.prog.funcNamed Tryd.f4.name = some 4 by kernel_rfl).symm.trans hf) |>.symm
      obtain rfl : fn = Tryd.f4 := (Option.some.inj (Tryd.func4.symm.trans hfn)).symm
      exact ⟨by kernel_rfl, fun j t ht => by
        rw [Tryd.params4] at ht
        have hm : t ∈ [22, 27, 23] := by simpa using Array.mem_of_getElem? ht
        have hall : ([22, 27, 23].all fun u => !Tryd.prog.wantsStandIn u) = true := by kernel_rfl
        exact (show Tryd.prog.wantsStandIn t = false by simpa using List.all_eq_true.1 hall t hm)⟩)
    (by kernel_rfl)
#print axioms card6
end Go.Proofs.Qxb6630228aDoor
