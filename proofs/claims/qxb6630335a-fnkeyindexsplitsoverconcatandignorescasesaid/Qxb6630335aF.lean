import Derived.Test.Qxb6630335aE
import Derived.Deep.Cut
namespace Go.Proofs.Qxb6630335a
open Go.ChangeShapes Go.WideShapes Go.ChangeAt Go.RowKit
set_option linter.unusedVariables false

theorem Try.size9 : (Try.prog.info? 9).map (·.size) = some 1 := by kernel_rfl
theorem Try.size5 : (Try.prog.info? 5).map (·.size) = some 1 := by kernel_rfl

/-- What stands behind 'if xs != nil { a copy }': a slice whose capacity is its length, holding the same strings; nothing old has turned. -/
def KRel (W : World) (n : Nat) (ss : List ByteArray) (s : Value) (wx : World) : Prop :=
  ∃ ka : Option Addr, s = .slice ka n n ∧ Below W.heap.size W wx ∧ Strs wx ka n ss ∧ (ka = none → n = 0)
def BRel (W : World) (m : Nat) (zs : List Int) (s : Value) (wx : World) : Prop :=
  ∃ ka : Option Addr, s = .slice ka m m ∧ Below W.heap.size W wx ∧ Bts wx ka m zs ∧ (ka = none → m = 0)

theorem strs_at {w : World} {ao : Option Addr} {n : Nat} {ss : List ByteArray} (h : Strs w ao n ss) : ∀ ad, ao = some ad → ∀ j v, (ss.map Value.string)[j]? = some v → w.cell? (ad.add j) = some v := by
  intro ad had j v hj
  have hlt : j < n := by have := (List.getElem?_eq_some_iff.1 hj).1; rw [List.length_map, h.1] at this; exact this
  obtain ⟨ad', e, hc⟩ := strs_src h (by omega)
  rw [had] at e
  cases e
  exact hc j v hj

theorem st_left (sa sb' : List ByteArray) (k : Nat) (h : k < sa.length) : st (sa ++ sb') k = st sa k := by
  simp [st, List.getD, List.getElem?_append_left h]
theorem st_right (sa sb' : List ByteArray) (k : Nat) : st (sa ++ sb') (sa.length + k) = st sb' k := by
  simp [st, List.getD, List.getElem?_append_right (Nat.le_add_right sa.length k)]

theorem strs_join {w : World} {g na nb : Nat} {sa sb' : List ByteArray} (h : w.heap[g]? = some (.cells (sa.map Value.string ++ sb'.map Value.string).toArray 9 (0, 0))) (ha : sa.length = na) (hb : sb'.length = nb)
    (la : ∀ k, k < na → (st sa k).size ≤ 1048576) (lb : ∀ k, k < nb → (st sb' k).size ≤ 1048576) : Strs w (some ⟨g, 0, none⟩) (na + nb) (sa ++ sb') := by
  refine strs_of_row (by rw [List.map_append]; exact h) (by rw [List.length_append, ha, hb]) (fun k hk => ?_)
  rcases Nat.lt_or_ge k na with h1 | h1
  · rw [st_left sa sb' k (by omega)]; exact la k h1
  · have e : k = sa.length + (k - na) := by omega
    rw [e, st_right]; exact lb (k - na) (by omega)

theorem drew_below {w w' : World} {nd : Nat} (h : w' = w.drewN nd) : Below w.heap.size w w' := by
  subst h
  exact ⟨rfl, rfl, rfl, Nat.le_refl _, fun _ _ => rfl⟩

theorem Least.bd {P : Nat → Prop} {n : Nat} {r : Int} (h : Least P n r) : -1 ≤ r ∧ r ≤ n := by
  rcases h with ⟨h1, h2⟩ | ⟨k, h1, h2, h3, h4⟩ <;> omega

set_option maxRecDepth 100000 in
set_option maxHeartbeats 8000000 in
theorem walk2 (aa ab bo : Option Addr) (na ca nb cb m c2 : Nat) (sa sb' : List ByteArray) (zs : List Int) (w : World) (hna : na ≤ maxLen) (hnb : nb ≤ maxLen) (hm : m ≤ maxLen)
    (hka : aa = none → na = 0 ∧ ca = 0) (hkb : ab = none → nb = 0 ∧ cb = 0) (hkz : bo = none → m = 0 ∧ c2 = 0) (ha : Strs w aa na sa) (hb : Strs w ab nb sb') (hz : Bts w bo m zs) :
    Calls Try.prog 4 #[.slice aa na ca, .slice ab nb cb, .slice bo m c2] w fun e w' => e = .returned (.bool true) ∧ Below w.heap.size w w' := by
  obtain ⟨i9, hi, hz0, hz1, hz2⟩ := info_parts Try.info9
  have H9 : Hid (Try.prog.info? 9 = some i9 ∧ i9.zero = some (.string ByteArray.empty) ∧ i9.size = 1 ∧ i9.bytes = 16) := ⟨hi, hz0, hz1, hz2⟩
  clear hi hz0 hz1 hz2
  obtain ⟨i5, hi, hz0, hz1, hz2⟩ := info_parts Try.info5
  have H5 : Hid (Try.prog.info? 5 = some i5 ∧ i5.zero = some (.int .u8 0) ∧ i5.size = 1 ∧ i5.bytes = 1) := ⟨hi, hz0, hz1, hz2⟩
  clear hi hz0 hz1 hz2
  have HZ9 : Hid ((Try.prog.info? 9).map (·.size) = some 1) := Try.size9
  have HZ5 : Hid ((Try.prog.info? 5).map (·.size) = some 1) := Try.size5
  have HA : Hid (Strs w aa na sa) := ha
  have HB : Hid (Strs w ab nb sb') := hb
  have HZ : Hid (Bts w bo m zs) := hz
  have HKA : Hid (aa = none → na = 0 ∧ ca = 0) := hka
  have HKB : Hid (ab = none → nb = 0 ∧ cb = 0) := hkb
  have HKZ : Hid (bo = none → m = 0 ∧ c2 = 0) := hkz
  have hqa := fun w => run_neq_slice_nil_any (P := Try.prog) w 22 9 aa na ca 0 0 Try.underlying22
  have hqb := fun w => run_neq_slice_nil_any (P := Try.prog) w 22 9 ab nb cb 0 0 Try.underlying22
  have hqz := fun w => run_neq_slice_nil_any (P := Try.prog) w 23 5 bo m c2 0 0 Try.underlying23
  clear ha hb hz hka hkb hkz
  go_enter Try.func4, Try.ntmps4
  go_wp2_with fail
  refine (bytes2_any aa ab bo na ca nb cb m c2 sa sb' _ hna hnb hm HA.out HB.out).mono ?_
  rintro e w' ⟨b, rfl, hb, rfl⟩
  cases b with
  | false =>
    clear hb
    go_wp2
    go_ret
    exact ⟨rfl, Below.refl _ _⟩
  | true =>
    obtain ⟨hn1, hn2, hm1, hl1, hl2⟩ := hb rfl
    have HLA : Hid (∀ k, k < na → (st sa k).size ≤ 1048576) := hl1
    have HLB : Hid (∀ k, k < nb → (st sb' k).size ≤ 1048576) := hl2
    clear hb hl1 hl2
    go_upto_if 26 with fail
    go_cut [0, 7] from 17 (fun s0 s7 wx => KRel w na sa s0 wx)
    case first =>
      rcases aa with _ | xk
      · obtain ⟨rfl, rfl⟩ := HKA.out rfl
        go_wp2_with fail
        go_meet
        case rel => exact ⟨none, rfl, Below.refl _ _, HA.out, fun _ => rfl⟩
      · have HSL : Hid (sa.length = na) := HA.out.1
        go_wp2_with (at_make; refine wpList_make_full _ rfl _ _ 22 rfl w.heap.size 9 i9 (.string ByteArray.empty) 1 Try.underlying22 H9.out.1 H9.out.2.1 H9.out.2.2.1 _ _ _ _ na rfl rfl (by omega) (by omega) (by rw [H9.out.2.2.2]; omega) (by unfold maxLen; omega) (Nat.le_refl _) ?_)
        intro wm hown hgrow
        have HR : Hid (Below w.heap.size w wm ∧ wm.ownsRow w.heap.size 9 1 (.slice (some ⟨w.heap.size, 0, none⟩) na na) na (madeCells #[.string ByteArray.empty] na).toList) := ⟨(Below.refl _ _).grown hgrow (Nat.le_refl _) (fun k hk => by cases hk), hown⟩
        clear hown hgrow
        go_wp2_with ((with_reducible show wpList _ _ _ _ _ _); refine wpList_copy_splice rfl (.tmp 30) (.tmp 31) 22 22 rfl 9 Try.underlying22 HZ9.out (some ⟨w.heap.size, 0, none⟩) (some xk) na na na ca rfl rfl w.heap.size 0 (madeCells #[.string ByteArray.empty] na).toList 9 (ownsRow_block HR.out.2).1 (sa.map Value.string) (by rw [List.length_map, HSL.out]; exact (Nat.min_self _).symm) (fun hp => ⟨rfl, strs_src (HA.out.later HR.out.1) (by simpa [HSL.out] using hp)⟩) (by rw [(ownsRow_block HR.out.2).2.1]; simp [HSL.out]) (strs_one sa) w.heap.size w HR.out.1 (Nat.le_refl _) ?_)
        intro wn hrow hbn
        have HK2 : Hid (Strs wn (some ⟨w.heap.size, 0, none⟩) na sa ∧ Below w.heap.size w wn) := ⟨strs_of_row (by have := hrow.out; rw [splice_all _ _ (by rw [(ownsRow_block HR.out.2).2.1]; simp [HSL.out])] at this; exact this) HSL.out HLA.out, hbn⟩
        clear hrow hbn HR HSL
        go_wp2_with fail
        go_meet
        case rel => exact ⟨_, rfl, HK2.out.2, HK2.out.1, fun h => by cases h⟩
    case rest =>
      obtain ⟨W1, rfl⟩ : ∃ W1, W1 = wc := ⟨_, rfl⟩
      obtain ⟨ka, rfl, hbel, hstr, hnil⟩ := hcut
      have HA1 : Hid (Strs W1 ka na sa ∧ (ka = none → na = 0)) := ⟨hstr, hnil⟩
      have HB1 : Hid (Strs W1 ab nb sb') := HB.out.later hbel
      have HZ1 : Hid (Bts W1 bo m zs) := HZ.out.later hbel
      have HW1 : Hid (Below w.heap.size w W1) := hbel
      have hs1 : w.heap.size ≤ W1.heap.size := hbel.size
      clear hbel hstr hnil HA HB HZ HKA hqa
      go_upto_if 35 with fail
      go_cut [1, 8] from 17 (fun s1 s8 wx => KRel W1 nb sb' s1 wx)
      case first =>
        rcases ab with _ | xk
        · obtain ⟨rfl, rfl⟩ := HKB.out rfl
          go_wp2_with fail
          go_meet
          case rel => exact ⟨none, rfl, Below.refl _ _, HB1.out, fun _ => rfl⟩
        · have HSL : Hid (sb'.length = nb) := HB1.out.1
          go_wp2_with (at_make; refine wpList_make_full _ rfl _ _ 22 rfl W1.heap.size 9 i9 (.string ByteArray.empty) 1 Try.underlying22 H9.out.1 H9.out.2.1 H9.out.2.2.1 _ _ _ _ nb rfl rfl (by omega) (by omega) (by rw [H9.out.2.2.2]; omega) (by unfold maxLen; omega) (Nat.le_refl _) ?_)
          intro wm hown hgrow
          have HR : Hid (Below W1.heap.size W1 wm ∧ wm.ownsRow W1.heap.size 9 1 (.slice (some ⟨W1.heap.size, 0, none⟩) nb nb) nb (madeCells #[.string ByteArray.empty] nb).toList) := ⟨(Below.refl _ _).grown hgrow (Nat.le_refl _) (fun k hk => by cases hk), hown⟩
          clear hown hgrow
          go_wp2_with ((with_reducible show wpList _ _ _ _ _ _); refine wpList_copy_splice rfl (.tmp 39) (.tmp 40) 22 22 rfl 9 Try.underlying22 HZ9.out (some ⟨W1.heap.size, 0, none⟩) (some xk) nb nb nb cb rfl rfl W1.heap.size 0 (madeCells #[.string ByteArray.empty] nb).toList 9 (ownsRow_block HR.out.2).1 (sb'.map Value.string) (by rw [List.length_map, HSL.out]; exact (Nat.min_self _).symm) (fun hp => ⟨rfl, strs_src (HB1.out.later HR.out.1) (by simpa [HSL.out] using hp)⟩) (by rw [(ownsRow_block HR.out.2).2.1]; simp [HSL.out]) (strs_one sb') W1.heap.size W1 HR.out.1 (Nat.le_refl _) ?_)
          intro wn hrow hbn
          have HK2 : Hid (Strs wn (some ⟨W1.heap.size, 0, none⟩) nb sb' ∧ Below W1.heap.size W1 wn) := ⟨strs_of_row (by have := hrow.out; rw [splice_all _ _ (by rw [(ownsRow_block HR.out.2).2.1]; simp [HSL.out])] at this; exact this) HSL.out HLB.out, hbn⟩
          clear hrow hbn HR HSL
          go_wp2_with fail
          go_meet
          case rel => exact ⟨_, rfl, HK2.out.2, HK2.out.1, fun h => by cases h⟩
      case rest =>
        obtain ⟨W2, rfl⟩ : ∃ W2, W2 = wc := ⟨_, rfl⟩
        obtain ⟨kb, rfl, hbel, hstr, hnil⟩ := hcut
        have HB2 : Hid (Strs W2 kb nb sb' ∧ (kb = none → nb = 0)) := ⟨hstr, hnil⟩
        have HA2 : Hid (Strs W2 ka na sa ∧ (ka = none → na = 0)) := ⟨HA1.out.1.later hbel, HA1.out.2⟩
        have HZ2 : Hid (Bts W2 bo m zs) := HZ1.out.later hbel
        have HW2 : Hid (Below w.heap.size w W2) := HW1.out.trans (hbel.mono hs1)
        have hs2 : w.heap.size ≤ W2.heap.size := HW2.out.size
        clear hbel hstr hnil HA1 HB1 HZ1 HKB hqb HW1 hs1
        go_upto_if 44 with fail
        go_cut [2, 9] from 17 (fun s2 s9 wx => BRel W2 m zs s2 wx)
        case first =>
          rcases bo with _ | xk
          · obtain ⟨rfl, rfl⟩ := HKZ.out rfl
            go_wp2_with fail
            go_meet
            case rel => exact ⟨none, rfl, Below.refl _ _, HZ2.out, fun _ => rfl⟩
          · have HSL : Hid (zs.length = m) := HZ2.out.1
            go_wp2_with (at_make; refine wpList_make_full _ rfl _ _ 23 rfl W2.heap.size 5 i5 (.int .u8 0) 1 Try.underlying23 H5.out.1 H5.out.2.1 H5.out.2.2.1 _ _ _ _ m rfl rfl (by omega) (by omega) (by rw [H5.out.2.2.2]; omega) (by unfold maxLen; omega) (Nat.le_refl _) ?_)
            intro wm hown hgrow
            have HR : Hid (Below W2.heap.size W2 wm ∧ wm.ownsRow W2.heap.size 5 1 (.slice (some ⟨W2.heap.size, 0, none⟩) m m) m (madeCells #[.int .u8 0] m).toList) := ⟨(Below.refl _ _).grown hgrow (Nat.le_refl _) (fun k hk => by cases hk), hown⟩
            clear hown hgrow
            go_wp2_with ((with_reducible show wpList _ _ _ _ _ _); refine wpList_copy_splice rfl (.tmp 48) (.tmp 49) 23 23 rfl 5 Try.underlying23 HZ5.out (some ⟨W2.heap.size, 0, none⟩) (some xk) m m m c2 rfl rfl W2.heap.size 0 (madeCells #[.int .u8 0] m).toList 5 (ownsRow_block HR.out.2).1 (zs.map (Value.int .u8)) (by rw [List.length_map, HSL.out]; exact (Nat.min_self _).symm) (fun hp => ⟨rfl, bts_src (HZ2.out.later HR.out.1) (by simpa [HSL.out] using hp)⟩) (by rw [(ownsRow_block HR.out.2).2.1]; simp [HSL.out]) (ints_oneCell _ _) W2.heap.size W2 HR.out.1 (Nat.le_refl _) ?_)
            intro wn hrow hbn
            have HK2 : Hid (Bts wn (some ⟨W2.heap.size, 0, none⟩) m zs ∧ Below W2.heap.size W2 wn) := ⟨bts_of_row (by have := hrow.out; rw [splice_all _ _ (by rw [(ownsRow_block HR.out.2).2.1]; simp [HSL.out])] at this; exact this) HSL.out HZ2.out.2.1, hbn⟩
            clear hrow hbn HR HSL
            go_wp2_with fail
            go_meet
            case rel => exact ⟨_, rfl, HK2.out.2, HK2.out.1, fun h => by cases h⟩
        case rest =>
          obtain ⟨W3, rfl⟩ : ∃ W3, W3 = wc := ⟨_, rfl⟩
          obtain ⟨kz, rfl, hbel, hstr, hnil⟩ := hcut
          have HZ3 : Hid (Bts W3 kz m zs) := hstr
          have HA3 : Hid (Strs W3 ka na sa ∧ (ka = none → na = 0)) := ⟨HA2.out.1.later hbel, HA2.out.2⟩
          have HB3 : Hid (Strs W3 kb nb sb' ∧ (kb = none → nb = 0)) := ⟨HB2.out.1.later hbel, HB2.out.2⟩
          have HW3 : Hid (Below w.heap.size w W3) := HW2.out.trans (hbel.mono hs2)
          have hs3 : w.heap.size ≤ W3.heap.size := HW3.out.size
          clear hbel hstr hnil HA2 HB2 HZ2 HKZ hqz HW2 hs2
          unfold maxLen at hna hnb hm
          go_wp2_with fail
          refine (keysBytes_any _ ka na na sa _ (by omega) (by omega) (by omega) HA3.out.1 HLA.out).mono ?_
          rintro e w' ⟨t1, rfl, ht1, rfl⟩
          by_cases ht1' : 1048576 < t1
          · go_wp2
            go_ret
            exact ⟨rfl, HW3.out⟩
          · go_wp2_with fail
            refine (keysBytes_any t1 kb nb nb sb' _ (by omega) (by omega) (by omega) HB3.out.1 HLB.out).mono ?_
            rintro e w' ⟨t2, rfl, ht2, rfl⟩
            by_cases ht2' : 1048576 < t2
            · go_wp2
              go_ret
              exact ⟨rfl, HW3.out⟩
            · go_wp2_with fail
              refine (lower_any ka na na sa _ (by omega) HA3.out.1).mono ?_
              rintro e w' ⟨b, rfl, hb, rfl⟩
              cases b with
              | false =>
                clear hb
                go_wp2
                go_ret
                exact ⟨rfl, HW3.out⟩
              | true =>
                have HLOA : Hid (∀ k, k < na → Lower (st sa k)) := hb rfl
                clear hb
                go_wp2_with fail
                refine (lower_any kb nb nb sb' _ (by omega) HB3.out.1).mono ?_
                rintro e w' ⟨b, rfl, hb, rfl⟩
                cases b with
                | false =>
                  clear hb
                  go_wp2
                  go_ret
                  exact ⟨rfl, HW3.out⟩
                | true =>
                  have HLOB : Hid (∀ k, k < nb → Lower (st sb' k)) := hb rfl
                  clear hb ht1 ht1' ht2 ht2'
                  go_wp2_with (at_make; refine wpList_make_own _ rfl _ _ 22 rfl W3.heap.size 9 i9 (.string ByteArray.empty) 1 Try.underlying22 H9.out.1 H9.out.2.1 H9.out.2.2.1 _ _ _ (na + nb) rfl rfl (by omega) (by rw [H9.out.2.2.2]; omega) (by unfold maxLen; omega) (Nat.le_refl _) ?_)
                  intro W4 hown hgrow
                  have HO4 : Hid (W4.ownsRow W3.heap.size 9 1 (.slice (some ⟨W3.heap.size, 0, none⟩) 0 (na + nb)) 0 []) := hown
                  have HB4 : Hid (Below W3.heap.size W3 W4) := (Below.refl _ _).grown hgrow (Nat.le_refl _) (fun k hk => by cases hk)
                  have HAL : Hid (sa.length = na) := HA3.out.1.1
                  have HBL : Hid (sb'.length = nb) := HB3.out.1.1
                  clear hown hgrow
                  go_wp2_with (at_builtin; refine wpList_append_fits_any _ rfl (.tmp 77) (.tmp 78) 22 rfl W3.heap.size 9 i9 1 Try.underlying22 H9.out.1 H9.out.2.2.1 W3.heap.size 0 (na + nb) [] rfl HO4.out ka na na (sa.map Value.string) rfl (by simp [HAL.out]) (fun h => ⟨HA3.out.2 h, HA3.out.2 h⟩) (strs_at (HA3.out.1.later HB4.out)) (strs_one sa) (by omega) ?_)
                  intro W5 hown hgrow
                  have HO5 : Hid (W5.ownsRow W3.heap.size 9 1 (.slice (some ⟨W3.heap.size, 0, none⟩) na (na + nb)) na (sa.map Value.string)) := hown
                  have HB5 : Hid (Below W3.heap.size W3 W5) := HB4.out.grown hgrow HB4.out.size (fun k hk => by cases hk; exact Nat.le_refl _)
                  clear hown hgrow HO4 HB4
                  go_wp2_with (at_builtin; refine wpList_append_fits_any _ rfl (.tmp 80) (.tmp 81) 22 rfl W3.heap.size 9 i9 1 Try.underlying22 H9.out.1 H9.out.2.2.1 W3.heap.size na (na + nb) (sa.map Value.string) rfl HO5.out kb nb nb (sb'.map Value.string) rfl (by simp [HBL.out]) (fun h => ⟨HB3.out.2 h, HB3.out.2 h⟩) (strs_at (HB3.out.1.later HB5.out)) (strs_one sb') (by omega) ?_)
                  intro W6 hown hgrow
                  have HB6 : Hid (Below W3.heap.size W3 W6) := HB5.out.grown hgrow HB5.out.size (fun k hk => by cases hk; exact Nat.le_refl _)
                  have HAB6 : Hid (Strs W6 (some ⟨W3.heap.size, 0, none⟩) (na + nb) (sa ++ sb')) := strs_join (ownsRow_block hown).1 HAL.out HBL.out HLA.out HLB.out
                  clear hown hgrow HO5 HB5
                  go_wp2_with fail
                  refine (swap_any kz m m zs W6 hm1 (HZ3.out.later HB6.out)).mono ?_
                  rintro e W7 ⟨rfl, hsw, hb7⟩
                  have HSW : Hid (Bts W7 (some ⟨W6.heap.size, 0, none⟩) m (zs.map swp)) := hsw
                  have HAB : Hid (Strs W7 (some ⟨W3.heap.size, 0, none⟩) (na + nb) (sa ++ sb')) := HAB6.out.later hb7
                  have hb37 : Below W3.heap.size W3 W7 := HB6.out.trans (hb7.mono HB6.out.size)
                  have HA7 : Hid (Strs W7 ka na sa) := HA3.out.1.later hb37
                  have HB7 : Hid (Strs W7 kb nb sb') := HB3.out.1.later hb37
                  have HZ7 : Hid (Bts W7 kz m zs) := HZ3.out.later hb37
                  have HW7 : Hid (Below w.heap.size w W7) := HW3.out.trans (hb37.mono hs3)
                  have HBY : Hid (Bytes zs) := HZ3.out.2.1
                  clear hsw hb7 hb37 HAB6 HB6 HA3 HB3 HZ3 HW3
                  go_wp2_with fail
                  refine (key_any (some ⟨W3.heap.size, 0, none⟩) kz (na + nb) (na + nb) m m (sa ++ sb') zs _ (by omega) (by omega) HAB.out HZ7.out).mono ?_
                  rintro e W8 ⟨r, rfl, hr, nd, hw8⟩
                  have HR : Hid (Least (fun k => Mat (st (sa ++ sb') k) zs) (na + nb) r) := hr
                  have HD8 : Hid (Below W7.heap.size W7 W8) := drew_below hw8
                  clear hr hw8
                  go_wp2_with fail
                  refine (key_any ka kz na na m m sa zs _ (by omega) (by omega) (HA7.out.later HD8.out) (HZ7.out.later HD8.out)).mono ?_
                  rintro e W9 ⟨ra, rfl, hr, nd, hw9⟩
                  have HRA : Hid (Least (fun k => Mat (st sa k) zs) na ra) := hr
                  have HD9 : Hid (Below W7.heap.size W7 W9) := HD8.out.trans ((drew_below hw9).mono HD8.out.size)
                  clear hr hw9
                  go_wp2_with fail
                  refine (key_any kb kz nb nb m m sb' zs _ (by omega) (by omega) (HB7.out.later HD9.out) (HZ7.out.later HD9.out)).mono ?_
                  rintro e W10 ⟨rb, rfl, hr, nd, hw10⟩
                  have HRB : Hid (Least (fun k => Mat (st sb' k) zs) nb rb) := hr
                  have HD10 : Hid (Below W7.heap.size W7 W10) := HD9.out.trans ((drew_below hw10).mono HD9.out.size)
                  clear hr hw10 HD8 HD9
                  have hbra := HRA.out.bd
                  have hbrb := HRB.out.bd
                  have HJ : Hid (r = if 0 ≤ ra then ra else if 0 ≤ rb then na + rb else -1) :=
                    HR.out.unique (HRA.out.join HRB.out (fun k hk => by rw [st_left sa sb' k (by rw [HAL.out]; exact hk)]) (fun k hk => by rw [← HAL.out, st_right]))
                  go_upto_if 95 with fail
                  go_cut [16] from 94 (fun s16 wx => s16 = .int .i64 r ∧ W10 = wx)
                  case first =>
                    by_cases h1 : 0 ≤ ra
                    · have e : Hid (r = ra) := by show r = ra; rw [HJ.out, if_pos h1]
                      go_wp2_with fail
                      go_meet
                      case rel => exact ⟨by rw [e.out], rfl⟩
                    · by_cases h2 : 0 ≤ rb
                      · have e : Hid (r = na + rb) := by show r = na + rb; rw [HJ.out, if_neg h1, if_pos h2]
                        go_wp2_with fail
                        go_meet
                        case rel => exact ⟨by rw [e.out], rfl⟩
                      · have e : Hid (r = -1) := by show r = -1; rw [HJ.out, if_neg h1, if_neg h2]
                        go_wp2_with fail
                        go_meet
                        case rel => exact ⟨by rw [e.out], rfl⟩
                  case rest =>
                    obtain ⟨rfl, rfl⟩ := hcut
                    go_wp2_with fail
                    refine (key_any (some ⟨W3.heap.size, 0, none⟩) (some ⟨W6.heap.size, 0, none⟩) (na + nb) (na + nb) m m (sa ++ sb') (zs.map swp) _ (by omega) (by omega) (HAB.out.later HD10.out) (HSW.out.later HD10.out)).mono ?_
                    rintro e W11 ⟨r2, rfl, hr, nd, hw11⟩
                    have hlow : ∀ k, k < na + nb → Lower (st (sa ++ sb') k) := by
                      intro k hk
                      rcases Nat.lt_or_ge k na with h1 | h1
                      · rw [st_left sa sb' k (by rw [HAL.out]; exact h1)]; exact HLOA.out k h1
                      · have e : k = sa.length + (k - na) := by rw [HAL.out]; omega
                        rw [e, st_right]; exact HLOB.out (k - na) (by omega)
                    obtain rfl : r2 = r := (hr.congr (fun k hk => mat_swp _ _ (hlow k hk) HBY.out)).unique HR.out
                    have HD11 : Hid (Below W7.heap.size W7 W11) := HD10.out.trans ((drew_below hw11).mono HD10.out.size)
                    clear hr hw11 hlow
                    go_wp2_with fail
                    refine (key_any ka (some ⟨W6.heap.size, 0, none⟩) na na m m sa (zs.map swp) _ (by omega) (by omega) (HA7.out.later HD11.out) (HSW.out.later HD11.out)).mono ?_
                    rintro e W12 ⟨ra2, rfl, hr, nd, hw12⟩
                    obtain rfl : ra2 = ra := (hr.congr (fun k hk => mat_swp _ _ (HLOA.out k hk) HBY.out)).unique HRA.out
                    have HD12 : Hid (Below W7.heap.size W7 W12) := HD11.out.trans ((drew_below hw12).mono HD11.out.size)
                    clear hr hw12
                    go_wp2_with fail
                    refine (sound_any ka kz na na m m sa zs ra2 _ (by omega) (by omega) (HA7.out.later HD12.out) (HZ7.out.later HD12.out) (HRA.out.congr (fun k hk => mat_fold _ _ (HLOA.out k hk) HBY.out))).mono ?_
                    rintro e w' ⟨rfl, rfl⟩
                    go_wp2_with fail
                    refine (sound_any kb kz nb nb m m sb' zs rb _ (by omega) (by omega) (HB7.out.later HD12.out) (HZ7.out.later HD12.out) (HRB.out.congr (fun k hk => mat_fold _ _ (HLOB.out k hk) HBY.out))).mono ?_
                    rintro e w' ⟨rfl, rfl⟩
                    go_wp2
                    go_ret
                    exact ⟨rfl, HW7.out.trans (HD12.out.mono HW7.out.size)⟩
end Go.Proofs.Qxb6630335a
