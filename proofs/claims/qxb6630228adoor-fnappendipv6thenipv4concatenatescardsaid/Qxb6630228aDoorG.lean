import Derived.Test.Qxb6630228aDoorF
namespace Go.Proofs.Qxb6630228aDoor
open Go.ChangeShapes Go.WideShapes Go.ChangeAt Go.RowKit
set_option linter.unusedVariables false

theorem bdrewN {B n : Nat} {a w : World} (h : Below B a w) : Below B a (w.drewN n) := ⟨h.os, h.tape, h.output, h.size, h.block⟩

set_option maxHeartbeats 4000000 in
theorem addrFrom16_any (x0 x1 x2 x3 x4 x5 x6 x7 x8 x9 x10 x11 x12 x13 x14 x15 : Int) (z : Option Addr) (w : World) (hs : 1 < w.heap.size) (hz : w.cell? ⟨1, 0, none⟩ = some (.pointer z))
   (b0 : 0 ≤ x0 ∧ x0 ≤ 255) (b1 : 0 ≤ x1 ∧ x1 ≤ 255) (b2 : 0 ≤ x2 ∧ x2 ≤ 255) (b3 : 0 ≤ x3 ∧ x3 ≤ 255) (b4 : 0 ≤ x4 ∧ x4 ≤ 255) (b5 : 0 ≤ x5 ∧ x5 ≤ 255) (b6 : 0 ≤ x6 ∧ x6 ≤ 255) (b7 : 0 ≤ x7 ∧ x7 ≤ 255) (b8 : 0 ≤ x8 ∧ x8 ≤ 255) (b9 : 0 ≤ x9 ∧ x9 ≤ 255) (b10 : 0 ≤ x10 ∧ x10 ≤ 255) (b11 : 0 ≤ x11 ∧ x11 ≤ 255) (b12 : 0 ≤ x12 ∧ x12 ≤ 255) (b13 : 0 ≤ x13 ∧ x13 ≤ 255) (b14 : 0 ≤ x14 ∧ x14 ≤ 255) (b15 : 0 ≤ x15 ∧ x15 ≤ 255) :
    Calls Tryd.prog 12 #[.agg #[.int .u8 x0, .int .u8 x1, .int .u8 x2, .int .u8 x3, .int .u8 x4, .int .u8 x5, .int .u8 x6, .int .u8 x7, .int .u8 x8, .int .u8 x9, .int .u8 x10, .int .u8 x11, .int .u8 x12, .int .u8 x13, .int .u8 x14, .int .u8 x15]] w fun e w' => e = .returned (.agg #[.int .u64 (be8 x0 x1 x2 x3 x4 x5 x6 x7), .int .u64 (be8 x8 x9 x10 x11 x12 x13 x14 x15), .pointer z]) ∧ Below w.heap.size w w' := by
  have hs0 : 0 < w.heap.size := by omega
  go_enter Tryd.func12, Tryd.ntmps12
  go_wp2
  go_region_with (first | (go_at_call_of 17 (Value.slice (some (Addr.mk w.heap.size 0 none)) 8 16); refine (be64 w.heap.size 0 8 16 x0 x1 x2 x3 x4 x5 x6 x7 _ (by omega) b0 b1 b2 b3 b4 b5 b6 b7 (by simp) (by simp) (by simp) (by simp) (by simp) (by simp) (by simp) (by simp)).mono ?_; rintro e w' ⟨rfl, k, rfl⟩) | (go_at_call_of 17 (Value.slice (some (Addr.mk w.heap.size 8 none)) 8 8); refine (be64 w.heap.size 8 8 8 x8 x9 x10 x11 x12 x13 x14 x15 _ (by omega) b8 b9 b10 b11 b12 b13 b14 b15 (by simp) (by simp) (by simp) (by simp) (by simp) (by simp) (by simp) (by simp)).mono ?_; rintro e w' ⟨rfl, k, rfl⟩))
  all_goals (go_wp2; go_returns; refine ⟨rfl, ?_⟩)
  all_goals repeat' (first | (with_reducible exact Below.refl _ _) | (with_reducible refine Below.setCell ?_ ?_ _) | (with_reducible refine bdrewN ?_) | (with_reducible refine Below.drew ?_) | (with_reducible refine Below.alloc ?_ ?_ _) | (with_reducible exact Nat.le_refl _) | (simp; done) | (simp; omega))

set_option maxHeartbeats 4000000 in
theorem as16_any (x0 x1 x2 x3 x4 x5 x6 x7 x8 x9 x10 x11 x12 x13 x14 x15 : Int) (z : Option Addr) (w : World)
   (b0 : 0 ≤ x0 ∧ x0 ≤ 255) (b1 : 0 ≤ x1 ∧ x1 ≤ 255) (b2 : 0 ≤ x2 ∧ x2 ≤ 255) (b3 : 0 ≤ x3 ∧ x3 ≤ 255) (b4 : 0 ≤ x4 ∧ x4 ≤ 255) (b5 : 0 ≤ x5 ∧ x5 ≤ 255) (b6 : 0 ≤ x6 ∧ x6 ≤ 255) (b7 : 0 ≤ x7 ∧ x7 ≤ 255) (b8 : 0 ≤ x8 ∧ x8 ≤ 255) (b9 : 0 ≤ x9 ∧ x9 ≤ 255) (b10 : 0 ≤ x10 ∧ x10 ≤ 255) (b11 : 0 ≤ x11 ∧ x11 ≤ 255) (b12 : 0 ≤ x12 ∧ x12 ≤ 255) (b13 : 0 ≤ x13 ∧ x13 ≤ 255) (b14 : 0 ≤ x14 ∧ x14 ≤ 255) (b15 : 0 ≤ x15 ∧ x15 ≤ 255) :
    Calls Tryd.prog 16 #[.agg #[.int .u64 (be8 x0 x1 x2 x3 x4 x5 x6 x7), .int .u64 (be8 x8 x9 x10 x11 x12 x13 x14 x15), .pointer z]] w fun e w' => e = .returned (.agg #[.int .u8 x0, .int .u8 x1, .int .u8 x2, .int .u8 x3, .int .u8 x4, .int .u8 x5, .int .u8 x6, .int .u8 x7, .int .u8 x8, .int .u8 x9, .int .u8 x10, .int .u8 x11, .int .u8 x12, .int .u8 x13, .int .u8 x14, .int .u8 x15]) ∧ Below w.heap.size w w' := by
  obtain ⟨⟨p0, p1⟩, e0, e1, e2, e3, e4, e5, e6, e7⟩ := put_parts x0 x1 x2 x3 x4 x5 x6 x7 b0 b1 b2 b3 b4 b5 b6 b7
  obtain ⟨⟨r0, r1⟩, f0, f1, f2, f3, f4, f5, f6, f7⟩ := put_parts x8 x9 x10 x11 x12 x13 x14 x15 b8 b9 b10 b11 b12 b13 b14 b15
  obtain ⟨v, hv⟩ : ∃ v, v = be8 x0 x1 x2 x3 x4 x5 x6 x7 := ⟨_, rfl⟩
  obtain ⟨u, hu⟩ : ∃ u, u = be8 x8 x9 x10 x11 x12 x13 x14 x15 := ⟨_, rfl⟩
  rw [← hv] at p0 p1 e0 e1 e2 e3 e4 e5 e6 e7 ⊢
  rw [← hu] at r0 r1 f0 f1 f2 f3 f4 f5 f6 f7 ⊢
  clear hv hu b0 b1 b2 b3 b4 b5 b6 b7 b8 b9 b10 b11 b12 b13 b14 b15
  have HE : Hid (v / 72057594037927936 = x0 ∧ v / 281474976710656 % 256 = x1 ∧ v / 1099511627776 % 256 = x2 ∧ v / 4294967296 % 256 = x3 ∧ v / 16777216 % 256 = x4 ∧ v / 65536 % 256 = x5 ∧ v / 256 % 256 = x6 ∧ v % 256 = x7) := ⟨e0, e1, e2, e3, e4, e5, e6, e7⟩
  have HF : Hid (u / 72057594037927936 = x8 ∧ u / 281474976710656 % 256 = x9 ∧ u / 1099511627776 % 256 = x10 ∧ u / 4294967296 % 256 = x11 ∧ u / 16777216 % 256 = x12 ∧ u / 65536 % 256 = x13 ∧ u / 256 % 256 = x14 ∧ u % 256 = x15) := ⟨f0, f1, f2, f3, f4, f5, f6, f7⟩
  clear e0 e1 e2 e3 e4 e5 e6 e7 f0 f1 f2 f3 f4 f5 f6 f7
  go_enter Tryd.func16, Tryd.ntmps16
  go_wp2
  go_region_with (go_at_call 21; refine (put64 (w.heap.size + 1) 0 8 16 v x0 x1 x2 x3 x4 x5 x6 x7 (.int .u8 0) (.int .u8 0) (.int .u8 0) (.int .u8 0) (.int .u8 0) (.int .u8 0) (.int .u8 0) (.int .u8 0) _ (by omega) (by omega) (by omega) HE.out.1 HE.out.2.1 HE.out.2.2.1 HE.out.2.2.2.1 HE.out.2.2.2.2.1 HE.out.2.2.2.2.2.1 HE.out.2.2.2.2.2.2.1 HE.out.2.2.2.2.2.2.2 (by simp) (by simp) (by simp) (by simp) (by simp) (by simp) (by simp) (by simp) (by intro j; simp)).mono ?_; rintro e w' ⟨rfl, rfl⟩)
  go_wp2
  go_region_with (go_at_call 21; refine (put64 (w.heap.size + 1) 8 8 8 u x8 x9 x10 x11 x12 x13 x14 x15 (.int .u8 0) (.int .u8 0) (.int .u8 0) (.int .u8 0) (.int .u8 0) (.int .u8 0) (.int .u8 0) (.int .u8 0) _ (by omega) (by omega) (by omega) HF.out.1 HF.out.2.1 HF.out.2.2.1 HF.out.2.2.2.1 HF.out.2.2.2.2.1 HF.out.2.2.2.2.2.1 HF.out.2.2.2.2.2.2.1 HF.out.2.2.2.2.2.2.2 (by simp) (by simp) (by simp) (by simp) (by simp) (by simp) (by simp) (by simp) (by intro j; simp)).mono ?_; rintro e w' ⟨rfl, rfl⟩)
  go_wp2
  go_returns
  refine ⟨rfl, ?_⟩
  all_goals repeat' (first | (with_reducible exact Below.refl _ _) | (with_reducible refine Below.setCell ?_ ?_ _) | (with_reducible refine bdrewN ?_) | (with_reducible refine Below.drew ?_) | (with_reducible refine Below.alloc ?_ ?_ _) | (with_reducible exact Nat.le_refl _) | (simp; done) | (simp; omega))
end Go.Proofs.Qxb6630228aDoor
