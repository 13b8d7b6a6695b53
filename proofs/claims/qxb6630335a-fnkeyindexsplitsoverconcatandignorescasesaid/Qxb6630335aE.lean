import Derived.Test.Qxb6630335aC
namespace Go.Proofs.Qxb6630335a
open Go.ChangeShapes Go.WideShapes Go.ChangeAt Go.RowKit
set_option linter.unusedVariables false

def Fits2 (na nb m : Nat) (sa sb' : List ByteArray) (b : Bool) : Prop :=
  b = true → na ≤ 1048576 ∧ nb ≤ 1048576 ∧ m ≤ 1048576 ∧ (∀ k, k < na → (st sa k).size ≤ 1048576) ∧ ∀ k, k < nb → (st sb' k).size ≤ 1048576
theorem Fits2.no (na nb m : Nat) (sa sb' : List ByteArray) : Fits2 na nb m sa sb' false := fun h => absurd h (by decide)

set_option maxHeartbeats 2000000 in
theorem bytes2_any (aa ab bo : Option Addr) (na ca nb cb m c2 : Nat) (sa sb' : List ByteArray) (w : World) (hna : na ≤ maxLen) (hnb : nb ≤ maxLen) (hm : m ≤ maxLen) (ha : Strs w aa na sa) (hb : Strs w ab nb sb') :
    Calls Try.prog 10 #[.slice aa na ca, .slice ab nb cb, .slice bo m c2] w (Says (Fits2 na nb m sa sb') w) := by
  unfold maxLen at hna hnb hm
  have HA : Hid (Strs w aa na sa) := ha
  have HB : Hid (Strs w ab nb sb') := hb
  clear ha hb
  by_cases hn1 : na ≤ 1048576
  · go_enter Try.func10, Try.ntmps10
    go_wp2
    go_loop [7, 8] (fun tv kv => ∃ (k : Nat) (y : Int), k ≤ na ∧ kv = .int .i64 k ∧ tv = .int .i64 y ∧ 0 ≤ y ∧ y ≤ 1048576 ∧ ∀ j, j < k → (st sa j).size ≤ 1048576) (fun _ kv => na - (intOf kv).toNat)
    case atStart => exact ⟨0, na, by omega, rfl, rfl, by omega, by omega, fun j hj => absurd hj (by omega)⟩
    case round =>
      obtain ⟨k, y, hk, rfl, rfl, hy0, hy1, hall⟩ := hrel
      have HALL : Hid (∀ j, j < k → (st sa j).size ≤ 1048576) := hall
      clear hall
      by_cases hlt : k < na
      · obtain ⟨g, off, rfl, hc, hsz⟩ := HA.out.2 k hlt
        obtain ⟨s, hse⟩ : ∃ s, s = st sa k := ⟨_, rfl⟩
        unfold maxLen at hsz
        rw [← hse] at hc hsz
        have HSE : Hid (s = st sa k) := hse
        clear hse
        by_cases hbig : 1048576 < (s.size : Int)
        · go_wp2
          go_ret
          exact says_mk false rfl (Fits2.no _ _ _ _ _)
        · by_cases hbig2 : 1048576 < y + (s.size : Int)
          · go_wp2
            go_ret
            exact says_mk false rfl (Fits2.no _ _ _ _ _)
          · go_wp2
            go_round
            case rel =>
              refine ⟨k + 1, _, hlt, by go_num, rfl, by omega, by omega, fun j hj => ?_⟩
              by_cases e : j = k
              · subst e; rw [← HSE.out]; omega
              · exact HALL.out j (by omega)
            case measure => simp [intOf]; omega
      · have HFA : Hid (∀ j, j < na → (st sa j).size ≤ 1048576) := fun j hj => HALL.out j (by omega)
        clear HALL
        by_cases hn2 : nb ≤ 1048576
        · by_cases hn3 : 1048576 < y + (nb : Int)
          · go_wp2
            go_ret
            exact says_mk false rfl (Fits2.no _ _ _ _ _)
          · go_wp2
            go_loop [7, 9] (fun tv kv => ∃ (k : Nat) (y : Int), k ≤ nb ∧ kv = .int .i64 k ∧ tv = .int .i64 y ∧ 0 ≤ y ∧ y ≤ 1048576 ∧ ∀ j, j < k → (st sb' j).size ≤ 1048576) (fun _ kv => nb - (intOf kv).toNat)
            case atStart => exact ⟨0, _, by omega, rfl, rfl, by omega, by omega, fun j hj => absurd hj (by omega)⟩
            case round =>
              obtain ⟨k2, y2, hk2, rfl, rfl, hy20, hy21, hall⟩ := hrel
              have HALL : Hid (∀ j, j < k2 → (st sb' j).size ≤ 1048576) := hall
              clear hall
              by_cases hlt2 : k2 < nb
              · obtain ⟨g, off, rfl, hc, hsz⟩ := HB.out.2 k2 hlt2
                obtain ⟨s, hse⟩ : ∃ s, s = st sb' k2 := ⟨_, rfl⟩
                unfold maxLen at hsz
                rw [← hse] at hc hsz
                have HSE : Hid (s = st sb' k2) := hse
                clear hse
                by_cases hbig : 1048576 < (s.size : Int)
                · go_wp2
                  go_ret
                  exact says_mk false rfl (Fits2.no _ _ _ _ _)
                · by_cases hbig2 : 1048576 < y2 + (s.size : Int)
                  · go_wp2
                    go_ret
                    exact says_mk false rfl (Fits2.no _ _ _ _ _)
                  · go_wp2
                    go_round
                    case rel =>
                      refine ⟨k2 + 1, _, hlt2, by go_num, rfl, by omega, by omega, fun j hj => ?_⟩
                      by_cases e : j = k2
                      · subst e; rw [← HSE.out]; omega
                      · exact HALL.out j (by omega)
                    case measure => simp [intOf]; omega
              · by_cases hm1 : m ≤ 1048576
                · by_cases hbig3 : 1048576 < y2 + (m : Int)
                  · go_wp2
                    go_ret
                    exact says_mk false rfl (Fits2.no _ _ _ _ _)
                  · go_wp2
                    go_ret
                    exact says_mk true rfl (fun _ => ⟨hn1, hn2, hm1, HFA.out, fun j hj => HALL.out j (by omega)⟩)
                · go_wp2
                  go_ret
                  exact says_mk false rfl (Fits2.no _ _ _ _ _)
        · go_wp2
          go_ret
          exact says_mk false rfl (Fits2.no _ _ _ _ _)
  · go_enter Try.func10, Try.ntmps10
    go_wp2
    go_ret
    exact says_mk false rfl (Fits2.no _ _ _ _ _)

set_option maxHeartbeats 2000000 in
theorem swap_any (bo : Option Addr) (m c2 : Nat) (zs : List Int) (w : World) (hm : m ≤ 1048576) (hz : Bts w bo m zs) :
    Calls Try.prog 11 #[.slice bo m c2] w fun e w' => e = .returned (.slice (some ⟨w.heap.size, 0, none⟩) m m) ∧ Bts w' (some ⟨w.heap.size, 0, none⟩) m (zs.map swp) ∧ Below w.heap.size w w' := by
  obtain ⟨i5, hi, hz0, hz1, hz2⟩ := info_parts Try.info5
  have H5 : Hid (Try.prog.info? 5 = some i5 ∧ i5.zero = some (.int .u8 0) ∧ i5.size = 1 ∧ i5.bytes = 1) := ⟨hi, hz0, hz1, hz2⟩
  clear hi hz0 hz1 hz2
  have HZ : Hid (Bts w bo m zs) := hz
  clear hz
  go_enter Try.func11, Try.ntmps11
  go_wp2_with (at_make; refine wpList_make_full _ rfl _ _ 23 rfl w.heap.size 5 i5 (.int .u8 0) 1 Try.underlying23 H5.out.1 H5.out.2.1 H5.out.2.2.1 _ _ _ _ m rfl rfl (by omega) (by omega) (by rw [H5.out.2.2.2]; omega) (by unfold maxLen; omega) (Nat.le_refl _) ?_)
  intro w1 hown hgrow
  have HB1 : Hid (Below w.heap.size w w1) := (Below.refl _ _).grown hgrow (Nat.le_refl _) (fun k hk => by cases hk)
  have HO : Hid (w1.ownsRow w.heap.size 5 1 (.slice (some ⟨w.heap.size, 0, none⟩) m m) m (madeCells #[.int .u8 0] m).toList) := hown
  clear hown hgrow
  go_wp2
  go_loopw [4] (fun iv wr => ∃ k : Nat, k ≤ m ∧ iv = .int .i64 k ∧ Below w.heap.size w wr ∧ ∃ ys, wr.ownsRow w.heap.size 5 1 (.slice (some ⟨w.heap.size, 0, none⟩) m m) m ys ∧ ∀ j, j < k → ys[j]? = some (.int .u8 (swp (zs.getD j 0)))) (fun iv _ => m - (intOf iv).toNat)
  case atStart => exact ⟨0, Nat.zero_le _, rfl, HB1.out, _, HO.out, fun j hj => absurd hj (by omega)⟩
  case round =>
    obtain ⟨k, hk, rfl, hbk, ys, hyo, hys⟩ := hrel
    have HY : Hid (Below w.heap.size w wr ∧ wr.ownsRow w.heap.size 5 1 (.slice (some ⟨w.heap.size, 0, none⟩) m m) m ys ∧ ∀ j, j < k → ys[j]? = some (.int .u8 (swp (zs.getD j 0)))) := ⟨hbk, hyo, hys⟩
    clear hbk hyo hys
    by_cases hlt : k < m
    · obtain ⟨g, off, rfl, hcz⟩ := HZ.out.2.2 k hlt
      obtain ⟨hb0, hb1⟩ := HZ.out.2.1 k (by rw [HZ.out.1]; exact hlt)
      have hgb : g < w.heap.size := World.block_lt_of_cell? _ _ hcz
      obtain ⟨c, hce⟩ : ∃ c, c = zs.getD k 0 := ⟨_, rfl⟩
      rw [← hce] at hcz hb0 hb1
      have HCE : Hid (c = zs.getD k 0) := hce
      have hcx : wr.cell? ⟨g, off + k, none⟩ = some (.int .u8 c) := (HY.out.1.cell (by exact hgb)).trans hcz
      clear hce hcz
      have hyl : ys.length = m := by simpa using HY.out.2.1.1
      obtain ⟨yk, hcy⟩ : ∃ y, wr.cell? ⟨w.heap.size, k, none⟩ = some y := ⟨ys[k]'(by omega), by rw [HY.out.2.1.cellAt k (by omega)]; simp⟩
      have hfy : wr.frozen? ⟨w.heap.size, k, none⟩ = false := HY.out.2.1.frozenAt k
      have HT : Hid (∀ u : Int, u = swp c → ∃ k' : Nat, k' ≤ m ∧ (.int .i64 ((k : Int) + 1) : Value) = .int .i64 k' ∧ Below w.heap.size w (wr.setCell ⟨w.heap.size, k, none⟩ (.int .u8 u)) ∧ ∃ ys, (wr.setCell ⟨w.heap.size, k, none⟩ (.int .u8 u)).ownsRow w.heap.size 5 1 (.slice (some ⟨w.heap.size, 0, none⟩) m m) m ys ∧ ∀ j, j < k' → ys[j]? = some (.int .u8 (swp (zs.getD j 0)))) := by
        intro u hu
        refine ⟨k + 1, hlt, by go_num, HY.out.1.setCell (Nat.le_refl _) _, _, (HY.out.2.1.stored k _).1, fun j hj => ?_⟩
        by_cases hjk : j = k
        · subst hjk; rw [List.getElem?_set_self (by omega), hu, HCE.out]
        · rw [List.getElem?_set_ne (by omega)]; exact HY.out.2.2 j (by omega)
      clear HY hyl
      rcases (show (97 ≤ c ∧ c ≤ 122) ∨ (65 ≤ c ∧ c ≤ 90) ∨ c < 65 ∨ (90 < c ∧ c < 97) ∨ 122 < c by omega) with ⟨h1, h2⟩ | ⟨h1, h2⟩ | h1 | ⟨h1, h2⟩ | h1
      · have hs : Hid (c - 32 = swp c) := by show _ = _; unfold swp; rw [if_pos (by omega)]
        go_wp2
        go_roundw
        case rel => exact HT.out _ hs.out
        case measure => simp [intOf]; omega
      · have hs : Hid (c + 32 = swp c) := by show _ = _; unfold swp; rw [if_neg (by omega), if_pos (by omega)]
        go_wp2
        go_roundw
        case rel => exact HT.out _ hs.out
        case measure => simp [intOf]; omega
      all_goals
        have hs : Hid (c = swp c) := by show _ = _; unfold swp; rw [if_neg (by omega), if_neg (by omega)]
        go_wp2
        go_roundw
        case rel => exact HT.out _ hs.out
        case measure => simp [intOf]; omega
    · obtain rfl : k = m := by omega
      go_wp2
      go_ret
      refine ⟨rfl, ⟨by rw [List.length_map]; exact HZ.out.1, fun i hi => ?_, fun j hj => ⟨w.heap.size, 0, rfl, ?_⟩⟩, HY.out.1⟩
      · rw [List.length_map] at hi
        rw [getD_map_swp zs i hi]
        have := HZ.out.2.1 i hi
        unfold swp; split; omega; split <;> omega
      · rw [Nat.zero_add, HY.out.2.1.cellAt j (by omega), HY.out.2.2 j hj, getD_map_swp zs j (by rw [HZ.out.1]; exact hj)]

set_option maxHeartbeats 1000000 in
theorem sound_any (ao bo : Option Addr) (n c1 m c2 : Nat) (ss : List ByteArray) (zs : List Int) (r : Int) (w : World) (hn : n ≤ 4194304) (hm : m ≤ 4194304) (hs : Strs w ao n ss) (hz : Bts w bo m zs) (hr : Least (fun k => Fold (st ss k) zs) n r) :
    Calls Try.prog 12 #[.slice ao n c1, .slice bo m c2, .int .i64 r] w fun e w' => e = .returned (.bool true) ∧ w = w' := by
  have HS : Hid (Strs w ao n ss) := hs
  have HZ : Hid (Bts w bo m zs) := hz
  clear hs hz
  rcases hr with ⟨rfl, hno⟩ | ⟨k0, hk0, rfl, hyes, hno⟩
  · clear hno
    go_enter Try.func12, Try.ntmps12
    go_wp2
    go_ret
    exact ⟨rfl, rfl⟩
  · have HYES : Hid (Fold (st ss k0) zs) := hyes
    clear hno hyes
    obtain ⟨g, off, rfl, hc, hsz⟩ := HS.out.2 k0 hk0
    obtain ⟨s, hse⟩ : ∃ s, s = st ss k0 := ⟨_, rfl⟩
    rw [← hse] at hc hsz
    have HSE : Hid (s = st ss k0) := hse
    clear hse
    go_enter Try.func12, Try.ntmps12
    go_wp2_with fail
    refine (fold_any bo m c2 s zs _ hsz hm HZ.out).mono ?_
    rintro e w' ⟨b, rfl, hb, rfl⟩
    have hbt : b = true := hb.2 (by rw [HSE.out]; exact HYES.out)
    subst hbt
    clear hb hc hsz
    go_wp2
    go_ret
    exact ⟨rfl, rfl⟩
end Go.Proofs.Qxb6630335a
