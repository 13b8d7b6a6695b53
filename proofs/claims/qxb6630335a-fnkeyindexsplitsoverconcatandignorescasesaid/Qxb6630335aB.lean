import Derived.Test.Qxb6630335aA
namespace Go.Proofs.Qxb6630335a
open Go.ChangeShapes Go.WideShapes Go.ChangeAt Go.RowKit
set_option linter.unusedVariables false

def SaysInt (P : Int → Prop) (w : World) (e : Ending) (w' : World) : Prop := ∃ r : Int, e = .returned (.int .i64 r) ∧ P r ∧ w = w'
theorem saysInt_mk {P : Int → Prop} {w : World} {e : Ending} (r : Int) (h : e = .returned (.int .i64 r)) (hp : P r) : SaysInt P w e w := ⟨r, h, hp, rfl⟩

set_option maxHeartbeats 1000000 in
theorem keysBytes_any (t : Int) (ao : Option Addr) (n c1 : Nat) (ss : List ByteArray) (w : World) (ht0 : 0 ≤ t) (ht1 : t ≤ 1048576) (hn : n ≤ 4194304) (hs : Strs w ao n ss) (hsz : ∀ k, k < n → (st ss k).size ≤ 1048576) :
    Calls Try.prog 6 #[.int .i64 t, .slice ao n c1] w (SaysInt (fun r => 0 ≤ r ∧ r ≤ 4194304) w) := by
  have HS : Hid (Strs w ao n ss) := hs
  have HL : Hid (∀ k, k < n → (st ss k).size ≤ 1048576) := hsz
  clear hs hsz
  go_enter Try.func6, Try.ntmps6
  go_wp2
  go_loop [0, 5] (fun tv kv => ∃ (k : Nat) (y : Int), k ≤ n ∧ kv = .int .i64 k ∧ tv = .int .i64 y ∧ 0 ≤ y ∧ y ≤ 1048576) (fun _ kv => n - (intOf kv).toNat)
  case atStart => exact ⟨0, t, by omega, rfl, rfl, ht0, ht1⟩
  case round =>
    obtain ⟨k, y, hk, rfl, rfl, hy0, hy1⟩ := hrel
    by_cases hlt : k < n
    · obtain ⟨g, off, rfl, hc, _⟩ := HS.out.2 k hlt
      obtain ⟨s, hse⟩ : ∃ s, s = st ss k := ⟨_, rfl⟩
      have hsz := HL.out k hlt
      rw [← hse] at hc hsz
      clear hse
      by_cases hbig : 1048576 < y + (16 + (s.size : Int))
      · go_wp2
        go_ret
        exact saysInt_mk _ rfl (by omega)
      · go_wp2
        go_round
        case rel => exact ⟨k + 1, _, hlt, by go_num, rfl, by omega, by omega⟩
        case measure => simp [intOf]; omega
    · go_wp2
      go_ret
      exact saysInt_mk _ rfl (by omega)

/-- What the guard's 'true' says of the lengths. -/
def Fits1 (n m : Nat) (ss : List ByteArray) (b : Bool) : Prop := b = true → n ≤ 1048576 ∧ m ≤ 1048576 ∧ ∀ k, k < n → (st ss k).size ≤ 1048576
theorem Fits1.no (n m : Nat) (ss : List ByteArray) : Fits1 n m ss false := fun h => absurd h (by decide)

set_option maxHeartbeats 1000000 in
theorem bytes1_any (ao bo : Option Addr) (n c1 m c2 : Nat) (ss : List ByteArray) (w : World) (hn : n ≤ maxLen) (hm : m ≤ maxLen) (hs : Strs w ao n ss) :
    Calls Try.prog 5 #[.slice ao n c1, .slice bo m c2] w (Says (Fits1 n m ss) w) := by
  unfold maxLen at hn hm
  have HS : Hid (Strs w ao n ss) := hs
  clear hs
  by_cases hn1 : n ≤ 1048576
  · go_enter Try.func5, Try.ntmps5
    go_wp2
    go_loop [5, 6] (fun tv kv => ∃ (k : Nat) (y : Int), k ≤ n ∧ kv = .int .i64 k ∧ tv = .int .i64 y ∧ 0 ≤ y ∧ y ≤ 1048576 ∧ ∀ j, j < k → (st ss j).size ≤ 1048576) (fun _ kv => n - (intOf kv).toNat)
    case atStart => exact ⟨0, n, by omega, rfl, rfl, by omega, by omega, fun j hj => absurd hj (by omega)⟩
    case round =>
      obtain ⟨k, y, hk, rfl, rfl, hy0, hy1, hall⟩ := hrel
      have HALL : Hid (∀ j, j < k → (st ss j).size ≤ 1048576) := hall
      clear hall
      by_cases hlt : k < n
      · obtain ⟨g, off, rfl, hc, hsz⟩ := HS.out.2 k hlt
        obtain ⟨s, hse⟩ : ∃ s, s = st ss k := ⟨_, rfl⟩
        unfold maxLen at hsz
        rw [← hse] at hc hsz
        have HSE : Hid (s = st ss k) := hse
        clear hse
        by_cases hbig : 1048576 < (s.size : Int)
        · go_wp2
          go_ret
          exact says_mk false rfl (Fits1.no _ _ _)
        · by_cases hbig2 : 1048576 < y + (s.size : Int)
          · go_wp2
            go_ret
            exact says_mk false rfl (Fits1.no _ _ _)
          · go_wp2
            go_round
            case rel =>
              refine ⟨k + 1, _, hlt, by go_num, rfl, by omega, by omega, fun j hj => ?_⟩
              by_cases e : j = k
              · subst e; rw [← HSE.out]; omega
              · exact HALL.out j (by omega)
            case measure => simp [intOf]; omega
      · by_cases hm1 : m ≤ 1048576
        · by_cases hbig3 : 1048576 < y + (m : Int)
          · go_wp2
            go_ret
            exact says_mk false rfl (Fits1.no _ _ _)
          · go_wp2
            go_ret
            exact says_mk true rfl (fun _ => ⟨hn1, hm1, fun j hj => HALL.out j (by omega)⟩)
        · go_wp2
          go_ret
          exact says_mk false rfl (Fits1.no _ _ _)
  · go_enter Try.func5, Try.ntmps5
    go_wp2
    go_ret
    exact says_mk false rfl (Fits1.no _ _ _)

set_option maxHeartbeats 2000000 in
theorem least_any (ao bo : Option Addr) (n c1 m c2 : Nat) (ss : List ByteArray) (zs : List Int) (r : Int) (w : World) (hn : n ≤ 4194304) (hm : m ≤ 4194304) (hs : Strs w ao n ss) (hz : Bts w bo m zs) (hr : Least (fun k => Fold (st ss k) zs) n r) :
    Calls Try.prog 9 #[.slice ao n c1, .slice bo m c2, .int .i64 r] w fun e w' => e = .returned (.bool true) ∧ w = w' := by
  have HS : Hid (Strs w ao n ss) := hs
  have HZ : Hid (Bts w bo m zs) := hz
  clear hs hz
  rcases hr with ⟨rfl, hno⟩ | ⟨k0, hk0, rfl, hyes, hno⟩
  · have HNO : Hid (∀ k, k < n → ¬ Fold (st ss k) zs) := hno
    clear hno
    go_enter Try.func9, Try.ntmps9
    go_wp2
    go_loop [7] (fun kv => ∃ k : Nat, k ≤ n ∧ kv = .int .i64 k) (fun kv => n - (intOf kv).toNat)
    case atStart => exact ⟨0, by omega, rfl⟩
    case round =>
      obtain ⟨k, hk, rfl⟩ := hrel
      by_cases hlt : k < n
      · obtain ⟨g, off, rfl, hc, hsz⟩ := HS.out.2 k hlt
        have HF := HNO.out k hlt
        obtain ⟨s, hse⟩ : ∃ s, s = st ss k := ⟨_, rfl⟩
        rw [← hse] at hc hsz HF
        have HFF : Hid (¬ Fold s zs) := HF
        clear hse HF
        go_wp2_with fail
        refine (fold_any bo m c2 s zs _ hsz hm HZ.out).mono ?_
        rintro e w' ⟨b, rfl, hb, rfl⟩
        have hbf : b = false := by cases b with | false => rfl | true => exact absurd (hb.1 rfl) HFF.out
        subst hbf
        clear hb
        go_wp2
        go_round
        case rel => exact ⟨k + 1, hlt, by go_num⟩
        case measure => simp [intOf]; omega
      · go_wp2
        go_ret
        exact ⟨rfl, rfl⟩
  · have HNO : Hid (∀ k, k < k0 → ¬ Fold (st ss k) zs) := hno
    have HYES : Hid (Fold (st ss k0) zs) := hyes
    clear hno hyes
    obtain ⟨g, off, rfl, hc, hsz⟩ := HS.out.2 k0 hk0
    obtain ⟨s, hse⟩ : ∃ s, s = st ss k0 := ⟨_, rfl⟩
    rw [← hse] at hc hsz
    have HSE : Hid (s = st ss k0) := hse
    clear hse
    go_enter Try.func9, Try.ntmps9
    go_wp2_with fail
    refine (fold_any bo m c2 s zs _ hsz hm HZ.out).mono ?_
    rintro e w' ⟨b, rfl, hb, rfl⟩
    have hbt : b = true := hb.2 (by rw [HSE.out]; exact HYES.out)
    subst hbt
    clear hb hc hsz
    go_wp2
    go_loop [8] (fun kv => ∃ k : Nat, k ≤ k0 ∧ kv = .int .i64 k) (fun kv => k0 - (intOf kv).toNat)
    case atStart => exact ⟨0, by omega, rfl⟩
    case round =>
      obtain ⟨k, hk, rfl⟩ := hrel
      by_cases hlt : k < k0
      · obtain ⟨g', off', e', hc, hsz⟩ := HS.out.2 k (by omega)
        cases e'
        have HF := HNO.out k hlt
        obtain ⟨s', hse⟩ : ∃ s, s = st ss k := ⟨_, rfl⟩
        rw [← hse] at hc hsz HF
        have HFF : Hid (¬ Fold s' zs) := HF
        clear hse HF
        go_wp2_with fail
        refine (fold_any bo m c2 s' zs _ hsz hm HZ.out).mono ?_
        rintro e w' ⟨b, rfl, hb, rfl⟩
        have hbf : b = false := by cases b with | false => rfl | true => exact absurd (hb.1 rfl) HFF.out
        subst hbf
        clear hb
        go_wp2
        go_round
        case rel => exact ⟨k + 1, hlt, by go_num⟩
        case measure => simp [intOf]; omega
      · go_wp2
        go_ret
        exact ⟨rfl, rfl⟩
end Go.Proofs.Qxb6630335a
