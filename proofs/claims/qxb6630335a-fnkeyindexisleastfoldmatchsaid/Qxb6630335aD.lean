import Derived.Test.Qxb6630335aC
namespace Go.Proofs.Qxb6630335a
open Go.ChangeShapes Go.WideShapes Go.ChangeAt Go.RowKit
set_option linter.unusedVariables false

theorem Try.size9 : (Try.prog.info? 9).map (·.size) = some 1 := by kernel_rfl
theorem Try.size5 : (Try.prog.info? 5).map (·.size) = some 1 := by kernel_rfl

set_option maxHeartbeats 4000000 in
theorem walk1 (ao bo : Option Addr) (n c1 m c2 : Nat) (ss : List ByteArray) (zs : List Int) (w : World) (hn : n ≤ maxLen) (hm : m ≤ maxLen) (hk : ao = none → n = 0 ∧ c1 = 0) (hb : bo = none → m = 0 ∧ c2 = 0) (hs : Strs w ao n ss) (hz : Bts w bo m zs) :
    Calls Try.prog 3 #[.slice ao n c1, .slice bo m c2] w fun e w' => e = .returned (.bool true) ∧ Below w.heap.size w w' := by
  obtain ⟨i9, hi, hz0, hz1, hz2⟩ := info_parts Try.info9
  have H9 : Hid (Try.prog.info? 9 = some i9 ∧ i9.zero = some (.string ByteArray.empty) ∧ i9.size = 1 ∧ i9.bytes = 16) := ⟨hi, hz0, hz1, hz2⟩
  clear hi hz0 hz1 hz2
  obtain ⟨i5, hi, hz0, hz1, hz2⟩ := info_parts Try.info5
  have H5 : Hid (Try.prog.info? 5 = some i5 ∧ i5.zero = some (.int .u8 0) ∧ i5.size = 1 ∧ i5.bytes = 1) := ⟨hi, hz0, hz1, hz2⟩
  clear hi hz0 hz1 hz2
  have HZ9 : Hid ((Try.prog.info? 9).map (·.size) = some 1) := Try.size9
  have HZ5 : Hid ((Try.prog.info? 5).map (·.size) = some 1) := Try.size5
  have HS : Hid (Strs w ao n ss) := hs
  have HZ : Hid (Bts w bo m zs) := hz
  have hnk := fun w => run_neq_slice_nil_any (P := Try.prog) w 22 9 ao n c1 0 0 Try.underlying22
  have hnb := fun w => run_neq_slice_nil_any (P := Try.prog) w 23 5 bo m c2 0 0 Try.underlying23
  clear hs hz
  rcases ao with _ | xk
  · obtain ⟨rfl, rfl⟩ := hk rfl
    clear hk
    rcases bo with _ | xb
    · obtain ⟨rfl, rfl⟩ := hb rfl
      clear hb
      go_enter Try.func3, Try.ntmps3
      go_wp2_with fail
      refine (bytes1_any none none 0 0 0 0 ss _ hn hm HS.out).mono ?_
      rintro e w' ⟨b, rfl, hb, rfl⟩
      cases b with
      | false =>
        clear hb
        go_wp2
        go_ret
        exact ⟨rfl, Below.refl _ _⟩
      | true =>
        obtain ⟨hn1, hm1, hsz⟩ := hb rfl
        have HL : Hid (∀ k, k < 0 → (st ss k).size ≤ 1048576) := hsz
        clear hb hsz
        go_wp2_with fail
        refine (keysBytes_any _ none 0 0 ss _ (by omega) (by omega) (by omega) HS.out HL.out).mono ?_
        rintro e w' ⟨r, rfl, hr, rfl⟩
        by_cases hr1 : 1048576 < r
        · go_wp2
          go_ret
          exact ⟨rfl, Below.refl _ _⟩
        · go_wp2_with fail
          refine (lower_any none 0 0 ss _ (by omega) HS.out).mono ?_
          rintro e w' ⟨b, rfl, hb, rfl⟩
          cases b with
          | false =>
            clear hb
            go_wp2
            go_ret
            exact ⟨rfl, Below.refl _ _⟩
          | true =>
            have HLO : Hid (∀ k, k < 0 → Lower (st ss k)) := hb rfl
            clear hb hr hr1
            have HK : Hid (Strs w none 0 ss) := HS.out
            have HBK : Hid (Below w.heap.size w w) := Below.refl _ _
            have HKB : Hid (Bts w none 0 zs) := HZ.out.later HBK.out
            have HK4 : Hid (Strs w none 0 ss) := HK.out
            have HBF : Hid (Below w.heap.size w w) := HBK.out
            go_wp2_with fail
            refine (key_any none none 0 0 0 0 ss zs _ (by omega) (by omega) HK4.out HKB.out).mono ?_
            rintro e w5 ⟨r, rfl, hr, nd, rfl⟩
            have HR2 : Hid (Least (fun k => Fold (st ss k) zs) 0 r) := hr.congr (fun k hk => mat_fold _ _ (HLO.out k hk) HZ.out.2.1)
            have hbd : Below w.heap.size w (w.drewN nd) := ⟨rfl, rfl, rfl, Nat.le_refl _, fun _ _ => rfl⟩
            have HK5 : Hid (Strs (w.drewN nd) none 0 ss ∧ Bts (w.drewN nd) none 0 zs) := ⟨HK4.out.later hbd, HKB.out.later hbd⟩
            clear hr hbd
            go_wp2_with fail
            refine (least_any none none 0 0 0 0 ss zs r _ (by omega) (by omega) HK5.out.1 HK5.out.2 HR2.out).mono ?_
            rintro e w6 ⟨rfl, rfl⟩
            go_wp2
            go_ret
            exact ⟨rfl, HBF.out.trans ⟨rfl, rfl, rfl, Nat.le_refl _, fun _ _ => rfl⟩⟩
    · clear hb
      go_enter Try.func3, Try.ntmps3
      go_wp2_with fail
      refine (bytes1_any none (some xb) 0 0 m c2 ss _ hn hm HS.out).mono ?_
      rintro e w' ⟨b, rfl, hb, rfl⟩
      cases b with
      | false =>
        clear hb
        go_wp2
        go_ret
        exact ⟨rfl, Below.refl _ _⟩
      | true =>
        obtain ⟨hn1, hm1, hsz⟩ := hb rfl
        have HL : Hid (∀ k, k < 0 → (st ss k).size ≤ 1048576) := hsz
        clear hb hsz
        go_wp2_with fail
        refine (keysBytes_any _ none 0 0 ss _ (by omega) (by omega) (by omega) HS.out HL.out).mono ?_
        rintro e w' ⟨r, rfl, hr, rfl⟩
        by_cases hr1 : 1048576 < r
        · go_wp2
          go_ret
          exact ⟨rfl, Below.refl _ _⟩
        · go_wp2_with fail
          refine (lower_any none 0 0 ss _ (by omega) HS.out).mono ?_
          rintro e w' ⟨b, rfl, hb, rfl⟩
          cases b with
          | false =>
            clear hb
            go_wp2
            go_ret
            exact ⟨rfl, Below.refl _ _⟩
          | true =>
            have HLO : Hid (∀ k, k < 0 → Lower (st ss k)) := hb rfl
            clear hb hr hr1
            have HK : Hid (Strs w none 0 ss) := HS.out
            have HBK : Hid (Below w.heap.size w w) := Below.refl _ _
            have HS2 : Hid (Bts w (some xb) m zs) := HZ.out.later HBK.out
            have hss : w.heap.size ≤ w.heap.size := HBK.out.size
            go_wp2_with (at_make; refine wpList_make_full _ rfl _ _ 23 rfl w.heap.size 5 i5 (.int .u8 0) 1 Try.underlying23 H5.out.1 H5.out.2.1 H5.out.2.2.1 _ _ _ _ m rfl rfl (by omega) (by omega) (by rw [H5.out.2.2.2]; omega) (by unfold maxLen; omega) (Nat.le_refl _) ?_)
            intro w3 hown hgrow
            have hb3 : Below w.heap.size w w3 := (Below.refl _ _).grown hgrow (Nat.le_refl _) (fun k hk => by cases hk)
            have HR : Hid (Below w.heap.size w w3 ∧ w3.ownsRow w.heap.size 5 1 (.slice (some ⟨w.heap.size, 0, none⟩) m m) m (madeCells #[.int .u8 0] m).toList) := ⟨hb3, hown⟩
            clear hown hgrow hb3
            have HZL : Hid (zs.length = m) := HZ.out.1
            go_wp2_with ((with_reducible show wpList _ _ _ _ _ _); refine wpList_copy_splice rfl (.tmp 37) (.tmp 38) 23 23 rfl 5 Try.underlying23 HZ5.out (some ⟨w.heap.size, 0, none⟩) (some xb) m m m c2 rfl rfl w.heap.size 0 (madeCells #[.int .u8 0] m).toList 5 (ownsRow_block HR.out.2).1 (zs.map (Value.int .u8)) (by rw [List.length_map, HZL.out]; exact (Nat.min_self _).symm) (fun hp => ⟨rfl, bts_src (HS2.out.later HR.out.1) (by simpa [HZL.out] using hp)⟩) (by rw [(ownsRow_block HR.out.2).2.1]; simp [HZL.out]) (ints_oneCell _ _) w.heap.size w HR.out.1 (Nat.le_refl _) ?_)
            intro w4 hrow hb4
            have HKB : Hid (Bts w4 (some ⟨w.heap.size, 0, none⟩) m zs) := bts_of_row (by have := hrow.out; rw [splice_all _ _ (by rw [(ownsRow_block HR.out.2).2.1]; simp [HZL.out])] at this; exact this) HZL.out HZ.out.2.1
            have HK4 : Hid (Strs w4 none 0 ss) := HK.out.later hb4
            have HBF : Hid (Below w.heap.size w w4) := HBK.out.trans (hb4.mono hss)
            clear hrow hb4 HR HZL
            go_wp2_with fail
            refine (key_any none (some ⟨w.heap.size, 0, none⟩) 0 0 m m ss zs _ (by omega) (by omega) HK4.out HKB.out).mono ?_
            rintro e w5 ⟨r, rfl, hr, nd, rfl⟩
            have HR2 : Hid (Least (fun k => Fold (st ss k) zs) 0 r) := hr.congr (fun k hk => mat_fold _ _ (HLO.out k hk) HZ.out.2.1)
            have hbd : Below w4.heap.size w4 (w4.drewN nd) := ⟨rfl, rfl, rfl, Nat.le_refl _, fun _ _ => rfl⟩
            have HK5 : Hid (Strs (w4.drewN nd) none 0 ss ∧ Bts (w4.drewN nd) (some ⟨w.heap.size, 0, none⟩) m zs) := ⟨HK4.out.later hbd, HKB.out.later hbd⟩
            clear hr hbd
            go_wp2_with fail
            refine (least_any none (some ⟨w.heap.size, 0, none⟩) 0 0 m m ss zs r _ (by omega) (by omega) HK5.out.1 HK5.out.2 HR2.out).mono ?_
            rintro e w6 ⟨rfl, rfl⟩
            go_wp2
            go_ret
            exact ⟨rfl, HBF.out.trans ⟨rfl, rfl, rfl, Nat.le_refl _, fun _ _ => rfl⟩⟩
  · clear hk
    rcases bo with _ | xb
    · obtain ⟨rfl, rfl⟩ := hb rfl
      clear hb
      go_enter Try.func3, Try.ntmps3
      go_wp2_with fail
      refine (bytes1_any (some xk) none n c1 0 0 ss _ hn hm HS.out).mono ?_
      rintro e w' ⟨b, rfl, hb, rfl⟩
      cases b with
      | false =>
        clear hb
        go_wp2
        go_ret
        exact ⟨rfl, Below.refl _ _⟩
      | true =>
        obtain ⟨hn1, hm1, hsz⟩ := hb rfl
        have HL : Hid (∀ k, k < n → (st ss k).size ≤ 1048576) := hsz
        clear hb hsz
        go_wp2_with fail
        refine (keysBytes_any _ (some xk) n c1 ss _ (by omega) (by omega) (by omega) HS.out HL.out).mono ?_
        rintro e w' ⟨r, rfl, hr, rfl⟩
        by_cases hr1 : 1048576 < r
        · go_wp2
          go_ret
          exact ⟨rfl, Below.refl _ _⟩
        · go_wp2_with fail
          refine (lower_any (some xk) n c1 ss _ (by omega) HS.out).mono ?_
          rintro e w' ⟨b, rfl, hb, rfl⟩
          cases b with
          | false =>
            clear hb
            go_wp2
            go_ret
            exact ⟨rfl, Below.refl _ _⟩
          | true =>
            have HLO : Hid (∀ k, k < n → Lower (st ss k)) := hb rfl
            clear hb hr hr1
            go_wp2_with (at_make; refine wpList_make_full _ rfl _ _ 22 rfl w.heap.size 9 i9 (.string ByteArray.empty) 1 Try.underlying22 H9.out.1 H9.out.2.1 H9.out.2.2.1 _ _ _ _ n rfl rfl (by omega) (by omega) (by rw [H9.out.2.2.2]; omega) (by unfold maxLen; omega) (Nat.le_refl _) ?_)
            intro w1 hown hgrow
            obtain ⟨hg1, hl1, _⟩ := ownsRow_block hown
            have hb1 : Below w.heap.size w w1 := (Below.refl _ _).grown hgrow (Nat.le_refl _) (fun k hk => by cases hk)
            have HR : Hid (Below w.heap.size w w1 ∧ w1.ownsRow w.heap.size 9 1 (.slice (some ⟨w.heap.size, 0, none⟩) n n) n (madeCells #[.string ByteArray.empty] n).toList) := ⟨hb1, hown⟩
            clear hown hgrow hg1 hb1 hl1
            have HSL : Hid (ss.length = n) := HS.out.1
            go_wp2_with ((with_reducible show wpList _ _ _ _ _ _); refine wpList_copy_splice rfl (.tmp 28) (.tmp 29) 22 22 rfl 9 Try.underlying22 HZ9.out (some ⟨w.heap.size, 0, none⟩) (some xk) n n n c1 rfl rfl w.heap.size 0 (madeCells #[.string ByteArray.empty] n).toList 9 (ownsRow_block HR.out.2).1 (ss.map Value.string) (by rw [List.length_map, HSL.out]; exact (Nat.min_self _).symm) (fun hp => ⟨rfl, strs_src (HS.out.later HR.out.1) (by simpa [HSL.out] using hp)⟩) (by rw [(ownsRow_block HR.out.2).2.1]; simp [HSL.out]) (strs_one ss) w.heap.size w HR.out.1 (Nat.le_refl _) ?_)
            intro w2 hrow hb2
            have HK : Hid (Strs w2 (some ⟨w.heap.size, 0, none⟩) n ss) := strs_of_row (by have := hrow.out; rw [splice_all _ _ (by rw [(ownsRow_block HR.out.2).2.1]; simp [HSL.out])] at this; exact this) HSL.out HL.out
            have HBK : Hid (Below w.heap.size w w2) := hb2
            clear hrow hb2 HR HSL
            have HKB : Hid (Bts w2 none 0 zs) := HZ.out.later HBK.out
            have HK4 : Hid (Strs w2 (some ⟨w.heap.size, 0, none⟩) n ss) := HK.out
            have HBF : Hid (Below w.heap.size w w2) := HBK.out
            go_wp2_with fail
            refine (key_any (some ⟨w.heap.size, 0, none⟩) none n n 0 0 ss zs _ (by omega) (by omega) HK4.out HKB.out).mono ?_
            rintro e w5 ⟨r, rfl, hr, nd, rfl⟩
            have HR2 : Hid (Least (fun k => Fold (st ss k) zs) n r) := hr.congr (fun k hk => mat_fold _ _ (HLO.out k hk) HZ.out.2.1)
            have hbd : Below w2.heap.size w2 (w2.drewN nd) := ⟨rfl, rfl, rfl, Nat.le_refl _, fun _ _ => rfl⟩
            have HK5 : Hid (Strs (w2.drewN nd) (some ⟨w.heap.size, 0, none⟩) n ss ∧ Bts (w2.drewN nd) none 0 zs) := ⟨HK4.out.later hbd, HKB.out.later hbd⟩
            clear hr hbd
            go_wp2_with fail
            refine (least_any (some ⟨w.heap.size, 0, none⟩) none n n 0 0 ss zs r _ (by omega) (by omega) HK5.out.1 HK5.out.2 HR2.out).mono ?_
            rintro e w6 ⟨rfl, rfl⟩
            go_wp2
            go_ret
            exact ⟨rfl, HBF.out.trans ⟨rfl, rfl, rfl, Nat.le_refl _, fun _ _ => rfl⟩⟩
    · clear hb
      go_enter Try.func3, Try.ntmps3
      go_wp2_with fail
      refine (bytes1_any (some xk) (some xb) n c1 m c2 ss _ hn hm HS.out).mono ?_
      rintro e w' ⟨b, rfl, hb, rfl⟩
      cases b with
      | false =>
        clear hb
        go_wp2
        go_ret
        exact ⟨rfl, Below.refl _ _⟩
      | true =>
        obtain ⟨hn1, hm1, hsz⟩ := hb rfl
        have HL : Hid (∀ k, k < n → (st ss k).size ≤ 1048576) := hsz
        clear hb hsz
        go_wp2_with fail
        refine (keysBytes_any _ (some xk) n c1 ss _ (by omega) (by omega) (by omega) HS.out HL.out).mono ?_
        rintro e w' ⟨r, rfl, hr, rfl⟩
        by_cases hr1 : 1048576 < r
        · go_wp2
          go_ret
          exact ⟨rfl, Below.refl _ _⟩
        · go_wp2_with fail
          refine (lower_any (some xk) n c1 ss _ (by omega) HS.out).mono ?_
          rintro e w' ⟨b, rfl, hb, rfl⟩
          cases b with
          | false =>
            clear hb
            go_wp2
            go_ret
            exact ⟨rfl, Below.refl _ _⟩
          | true =>
            have HLO : Hid (∀ k, k < n → Lower (st ss k)) := hb rfl
            clear hb hr hr1
            go_wp2_with (at_make; refine wpList_make_full _ rfl _ _ 22 rfl w.heap.size 9 i9 (.string ByteArray.empty) 1 Try.underlying22 H9.out.1 H9.out.2.1 H9.out.2.2.1 _ _ _ _ n rfl rfl (by omega) (by omega) (by rw [H9.out.2.2.2]; omega) (by unfold maxLen; omega) (Nat.le_refl _) ?_)
            intro w1 hown hgrow
            obtain ⟨hg1, hl1, _⟩ := ownsRow_block hown
            have hb1 : Below w.heap.size w w1 := (Below.refl _ _).grown hgrow (Nat.le_refl _) (fun k hk => by cases hk)
            have HR : Hid (Below w.heap.size w w1 ∧ w1.ownsRow w.heap.size 9 1 (.slice (some ⟨w.heap.size, 0, none⟩) n n) n (madeCells #[.string ByteArray.empty] n).toList) := ⟨hb1, hown⟩
            clear hown hgrow hg1 hb1 hl1
            have HSL : Hid (ss.length = n) := HS.out.1
            go_wp2_with ((with_reducible show wpList _ _ _ _ _ _); refine wpList_copy_splice rfl (.tmp 28) (.tmp 29) 22 22 rfl 9 Try.underlying22 HZ9.out (some ⟨w.heap.size, 0, none⟩) (some xk) n n n c1 rfl rfl w.heap.size 0 (madeCells #[.string ByteArray.empty] n).toList 9 (ownsRow_block HR.out.2).1 (ss.map Value.string) (by rw [List.length_map, HSL.out]; exact (Nat.min_self _).symm) (fun hp => ⟨rfl, strs_src (HS.out.later HR.out.1) (by simpa [HSL.out] using hp)⟩) (by rw [(ownsRow_block HR.out.2).2.1]; simp [HSL.out]) (strs_one ss) w.heap.size w HR.out.1 (Nat.le_refl _) ?_)
            intro w2 hrow hb2
            have HK : Hid (Strs w2 (some ⟨w.heap.size, 0, none⟩) n ss) := strs_of_row (by have := hrow.out; rw [splice_all _ _ (by rw [(ownsRow_block HR.out.2).2.1]; simp [HSL.out])] at this; exact this) HSL.out HL.out
            have HBK : Hid (Below w.heap.size w w2) := hb2
            clear hrow hb2 HR HSL
            have HS2 : Hid (Bts w2 (some xb) m zs) := HZ.out.later HBK.out
            have hss : w.heap.size ≤ w2.heap.size := HBK.out.size
            go_wp2_with (at_make; refine wpList_make_full _ rfl _ _ 23 rfl w2.heap.size 5 i5 (.int .u8 0) 1 Try.underlying23 H5.out.1 H5.out.2.1 H5.out.2.2.1 _ _ _ _ m rfl rfl (by omega) (by omega) (by rw [H5.out.2.2.2]; omega) (by unfold maxLen; omega) (Nat.le_refl _) ?_)
            intro w3 hown hgrow
            have hb3 : Below w2.heap.size w2 w3 := (Below.refl _ _).grown hgrow (Nat.le_refl _) (fun k hk => by cases hk)
            have HR : Hid (Below w2.heap.size w2 w3 ∧ w3.ownsRow w2.heap.size 5 1 (.slice (some ⟨w2.heap.size, 0, none⟩) m m) m (madeCells #[.int .u8 0] m).toList) := ⟨hb3, hown⟩
            clear hown hgrow hb3
            have HZL : Hid (zs.length = m) := HZ.out.1
            go_wp2_with ((with_reducible show wpList _ _ _ _ _ _); refine wpList_copy_splice rfl (.tmp 37) (.tmp 38) 23 23 rfl 5 Try.underlying23 HZ5.out (some ⟨w2.heap.size, 0, none⟩) (some xb) m m m c2 rfl rfl w2.heap.size 0 (madeCells #[.int .u8 0] m).toList 5 (ownsRow_block HR.out.2).1 (zs.map (Value.int .u8)) (by rw [List.length_map, HZL.out]; exact (Nat.min_self _).symm) (fun hp => ⟨rfl, bts_src (HS2.out.later HR.out.1) (by simpa [HZL.out] using hp)⟩) (by rw [(ownsRow_block HR.out.2).2.1]; simp [HZL.out]) (ints_oneCell _ _) w2.heap.size w2 HR.out.1 (Nat.le_refl _) ?_)
            intro w4 hrow hb4
            have HKB : Hid (Bts w4 (some ⟨w2.heap.size, 0, none⟩) m zs) := bts_of_row (by have := hrow.out; rw [splice_all _ _ (by rw [(ownsRow_block HR.out.2).2.1]; simp [HZL.out])] at this; exact this) HZL.out HZ.out.2.1
            have HK4 : Hid (Strs w4 (some ⟨w.heap.size, 0, none⟩) n ss) := HK.out.later hb4
            have HBF : Hid (Below w.heap.size w w4) := HBK.out.trans (hb4.mono hss)
            clear hrow hb4 HR HZL
            go_wp2_with fail
            refine (key_any (some ⟨w.heap.size, 0, none⟩) (some ⟨w2.heap.size, 0, none⟩) n n m m ss zs _ (by omega) (by omega) HK4.out HKB.out).mono ?_
            rintro e w5 ⟨r, rfl, hr, nd, rfl⟩
            have HR2 : Hid (Least (fun k => Fold (st ss k) zs) n r) := hr.congr (fun k hk => mat_fold _ _ (HLO.out k hk) HZ.out.2.1)
            have hbd : Below w4.heap.size w4 (w4.drewN nd) := ⟨rfl, rfl, rfl, Nat.le_refl _, fun _ _ => rfl⟩
            have HK5 : Hid (Strs (w4.drewN nd) (some ⟨w.heap.size, 0, none⟩) n ss ∧ Bts (w4.drewN nd) (some ⟨w2.heap.size, 0, none⟩) m zs) := ⟨HK4.out.later hbd, HKB.out.later hbd⟩
            clear hr hbd
            go_wp2_with fail
            refine (least_any (some ⟨w.heap.size, 0, none⟩) (some ⟨w2.heap.size, 0, none⟩) n n m m ss zs r _ (by omega) (by omega) HK5.out.1 HK5.out.2 HR2.out).mono ?_
            rintro e w6 ⟨rfl, rfl⟩
            go_wp2
            go_ret
            exact ⟨rfl, HBF.out.trans ⟨rfl, rfl, rfl, Nat.le_refl _, fun _ _ => rfl⟩⟩
end Go.Proofs.Qxb6630335a
