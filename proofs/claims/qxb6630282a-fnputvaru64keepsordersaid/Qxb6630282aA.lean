import Derived.Test.Qxb6630282aRows
import Derived.Test.Qxb6630282aPlain
import Derived.WalkKit
import Derived.ProofKit
import Derived.Handy
import Derived.WalkSpells
import Derived.Deep.QuietTactic
import Derived.BigQuiet
namespace Go.Proofs.Qxb6630282a
open Go.ChangeShapes Go.WideShapes Go.ChangeAt Go.RowKit
set_option linter.unusedVariables false

theorem Try.info5 : (Try.prog.info? 5).map (fun i => (i.zero, i.size, i.bytes)) = some (some (.int .u8 0), 1, 1) := by kernel_rfl

theorem grownBy_trans {a b c : World} {r : Option Nat} (h : a.grownBy b r) (k : b.grownBy c r) : a.grownBy c r :=
  ⟨k.os.trans h.os, k.tape.trans h.tape, k.output.trans h.output, Nat.le_trans h.size k.size, fun i hi hr => (k.block i (Nat.lt_of_lt_of_le hi h.size) hr).trans (h.block i hi hr)⟩

/-- The row of n bytes at block g holds the encoding of x. -/
def Holds (w : World) (base g n : Nat) (x : Int) : Prop :=
  ∃ ys, w.ownsRow base 5 1 (.slice (some ⟨g, 0, none⟩) n n) n ys ∧ ∀ j, j < n → ys[j]? = some (.int .u8 (enc n x j))

theorem Holds.cell {w : World} {base g n : Nat} {x : Int} (h : Holds w base g n x) (j : Nat) (hj : j < n) : w.cell? ⟨g, j, none⟩ = some (.int .u8 (enc n x j)) := by
  obtain ⟨ys, ho, hy⟩ := h
  rw [ho.cellAt j (by omega)]
  exact hy j hj

set_option maxHeartbeats 1000000 in
theorem put_any (base g n : Nat) (ys : List Value) (x : Int) (w : World) (hown : w.ownsRow base 5 1 (.slice (some ⟨g, 0, none⟩) n n) n ys) (hn1 : 1 ≤ n) (hn9 : n ≤ 9) (hx0 : 0 ≤ x) (hx1 : x ≤ 18446744073709551615) :
    Calls Try.prog 10 #[.slice (some ⟨g, 0, none⟩) n n, .int .u64 x] w fun e w' => e = .returned (.tuple #[]) ∧ w.grownBy w' (some g) ∧ Holds w' base g n x := by
  have hyl : ys.length = n := by simpa using hown.1
  obtain ⟨y0, hc0⟩ : ∃ y, w.cell? ⟨g, 0, none⟩ = some y := ⟨ys[0]'(by omega), by rw [hown.cellAt 0 (by omega)]; simp⟩
  have hf0 : w.frozen? ⟨g, 0, none⟩ = false := hown.frozenAt 0
  by_cases hone : n = 1
  · subst hone
    have HS : Hid ((w.setCell ⟨g, 0, none⟩ (.int .u8 (x % 256))).ownsRow base 5 1 (.slice (some ⟨g, 0, none⟩) 1 1) 1 (ys.set 0 (.int .u8 (x % 256))) ∧ w.grownBy (w.setCell ⟨g, 0, none⟩ (.int .u8 (x % 256))) (some g)) := hown.stored 0 _
    have HL : Hid (ys.length = 1) := hyl
    clear hyl hown
    go_enter Try.func10, Try.ntmps10
    go_wp2
    go_returns
    refine ⟨rfl, HS.out.2, _, HS.out.1, fun j hj => ?_⟩
    obtain rfl : j = 0 := by omega
    rw [enc_one, List.getElem?_set_self (by rw [HL.out]; omega)]
  · have HS : Hid ((w.setCell ⟨g, 0, none⟩ (.int .u8 (248 + ((n : Int) - 1 - 1)))).ownsRow base 5 1 (.slice (some ⟨g, 0, none⟩) n n) n (ys.set 0 (.int .u8 (248 + ((n : Int) - 1 - 1)))) ∧ w.grownBy (w.setCell ⟨g, 0, none⟩ (.int .u8 (248 + ((n : Int) - 1 - 1)))) (some g)) := hown.stored 0 _
    have HL : Hid (ys.length = n) := hyl
    have hq : ((n : Int) - 1 == 0) = false := by simp; omega
    clear hyl hown
    go_enter Try.func10, Try.ntmps10
    go_wp2
    go_loopw [1, 5] (fun xv iv wr => ∃ (k : Nat) (y : Int), k ≤ n - 1 ∧ iv = .int .i64 k ∧ xv = .int .u64 y ∧ y = x / 256 ^ (n - 1 - k) ∧ w.grownBy wr (some g) ∧ ∃ zs, wr.ownsRow base 5 1 (.slice (some ⟨g, 0, none⟩) n n) n zs ∧ zs[0]? = some (.int .u8 (enc n x 0)) ∧ ∀ j, k < j → j < n → zs[j]? = some (.int .u8 (enc n x j))) (fun _ iv _ => (intOf iv).toNat)
    case atStart =>
      refine ⟨n - 1, x, Nat.le_refl _, ?_, rfl, by simp, HS.out.2, _, HS.out.1, ?_, fun j h1 h2 => absurd h1 (by omega)⟩
      · congr 1; omega
      · rw [enc_head n x hone, List.getElem?_set_self (by rw [HL.out]; omega)]; congr 2; omega
    case round =>
      obtain ⟨k, y, hk, rfl, rfl, hy, hgr, zs, hzo, hz0, hzs⟩ := hrel
      have HY : Hid (y = x / 256 ^ (n - 1 - k)) := hy
      have hy0 : 0 ≤ y := by rw [hy]; exact div_nonneg' _ _ hx0
      have hy1 : y ≤ 18446744073709551615 := by rw [hy]; exact Int.le_trans (div_le' _ _ hx0) hx1
      clear hy
      have hzl : zs.length = n := by simpa using hzo.1
      by_cases hlt : 0 < k
      · obtain ⟨yk, hck⟩ : ∃ y, wr.cell? ⟨g, k, none⟩ = some y := ⟨zs[k]'(by omega), by rw [hzo.cellAt k (by omega)]; simp⟩
        have hfk : wr.frozen? ⟨g, k, none⟩ = false := hzo.frozenAt k
        have HT : Hid ((wr.setCell ⟨g, k, none⟩ (.int .u8 (y % 256))).ownsRow base 5 1 (.slice (some ⟨g, 0, none⟩) n n) n (zs.set k (.int .u8 (y % 256))) ∧ wr.grownBy (wr.setCell ⟨g, k, none⟩ (.int .u8 (y % 256))) (some g)) := hzo.stored k _
        have HZ : Hid (zs[0]? = some (.int .u8 (enc n x 0)) ∧ (∀ j, k < j → j < n → zs[j]? = some (.int .u8 (enc n x j))) ∧ w.grownBy wr (some g) ∧ zs.length = n) := ⟨hz0, hzs, hgr, hzl⟩
        clear hzo hz0 hzs hgr hzl
        go_wp2
        go_roundw
        case rel =>
          refine ⟨k - 1, y / 256, by omega, by congr 1; omega, rfl, ?_, grownBy_trans HZ.out.2.2.1 HT.out.2, _, HT.out.1, ?_, fun j h1 h2 => ?_⟩
          · rw [HY.out, ← div_succ]; congr 2; omega
          · rw [List.getElem?_set_ne (by omega)]; exact HZ.out.1
          · by_cases hjk : j = k
            · subst hjk
              rw [List.getElem?_set_self (by have := HZ.out.2.2.2; omega), enc_tail n x j (by omega), HY.out]
            · rw [List.getElem?_set_ne (by omega)]; exact HZ.out.2.1 j (by omega) h2
        case measure => simp [intOf]; omega
      · obtain rfl : k = 0 := by omega
        have HZ : Hid (w.grownBy wr (some g) ∧ Holds wr base g n x) := ⟨hgr, zs, hzo, fun j hj => by
          rcases Nat.eq_zero_or_pos j with rfl | h
          · exact hz0
          · exact hzs j h hj⟩
        clear hzo hz0 hzs hgr hzl
        go_wp2
        go_returns
        exact ⟨rfl, HZ.out⟩

set_option maxHeartbeats 400000 in
theorem zput_any (base g n : Nat) (ys : List Value) (x : Int) (w : World) (hown : w.ownsRow base 5 1 (.slice (some ⟨g, 0, none⟩) n n) n ys) (hn1 : 1 ≤ n) (hn9 : n ≤ 9) (hx0 : 0 ≤ x) (hx1 : x ≤ 18446744073709551615) :
    Calls Try.prog 6 #[.slice (some ⟨g, 0, none⟩) n n, .int .u64 x] w fun e w' => e = .returned (.tuple #[]) ∧ w.grownBy w' (some g) ∧ Holds w' base g n x := by
  go_enter Try.func6, Try.ntmps6
  go_wp2_with fail
  refine (put_any base g n ys x _ hown hn1 hn9 hx0 hx1).mono ?_
  rintro e w1 ⟨rfl, h1, h2⟩
  have H : Hid (w.grownBy w1 (some g) ∧ Holds w1 base g n x) := ⟨h1, h2⟩
  clear h1 h2 hown
  go_wp2
  go_returns
  exact ⟨rfl, H.out⟩
end Go.Proofs.Qxb6630282a
