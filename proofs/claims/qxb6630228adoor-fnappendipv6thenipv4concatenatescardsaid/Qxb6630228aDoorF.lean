import Derived.Test.Qxb6630228aDoorB
namespace Go.Proofs.Qxb6630228aDoor
open Go.ChangeShapes Go.WideShapes Go.ChangeAt Go.RowKit
set_option linter.unusedVariables false

/-- Eight bytes, the greatest first, as a number. -/
def be8 (x0 x1 x2 x3 x4 x5 x6 x7 : Int) : Int :=
  x7 + x6 * 256 + x5 * 65536 + x4 * 16777216 + x3 * 4294967296 + x2 * 1099511627776 + x1 * 281474976710656 + x0 * 72057594037927936

theorem or8 (x0 x1 x2 x3 x4 x5 x6 x7 : Int) (b0 : 0 ≤ x0 ∧ x0 ≤ 255) (b1 : 0 ≤ x1 ∧ x1 ≤ 255) (b2 : 0 ≤ x2 ∧ x2 ≤ 255) (b3 : 0 ≤ x3 ∧ x3 ≤ 255) (b4 : 0 ≤ x4 ∧ x4 ≤ 255) (b5 : 0 ≤ x5 ∧ x5 ≤ 255) (b6 : 0 ≤ x6 ∧ x6 ≤ 255) (b7 : 0 ≤ x7 ∧ x7 ≤ 255) :
    bits .or .u64 (bits .or .u64 (bits .or .u64 (bits .or .u64 (bits .or .u64 (bits .or .u64 (bits .or .u64 x7 (x6 * 256)) (x5 * 65536)) (x4 * 16777216)) (x3 * 4294967296)) (x2 * 1099511627776)) (x1 * 281474976710656)) (x0 * 72057594037927936) = be8 x0 x1 x2 x3 x4 x5 x6 x7 := by
  unfold be8
  simp (disch := omega) only [u64_or8, u64_or16, u64_or24, u64_or32, u64_or40, u64_or48, u64_or56]

set_option maxHeartbeats 2000000 in
theorem be64 (g o n c : Nat) (x0 x1 x2 x3 x4 x5 x6 x7 : Int) (w : World) (hn : 8 ≤ n)
    (b0 : 0 ≤ x0 ∧ x0 ≤ 255) (b1 : 0 ≤ x1 ∧ x1 ≤ 255) (b2 : 0 ≤ x2 ∧ x2 ≤ 255) (b3 : 0 ≤ x3 ∧ x3 ≤ 255) (b4 : 0 ≤ x4 ∧ x4 ≤ 255) (b5 : 0 ≤ x5 ∧ x5 ≤ 255) (b6 : 0 ≤ x6 ∧ x6 ≤ 255) (b7 : 0 ≤ x7 ∧ x7 ≤ 255)
    (c0 : w.cell? ⟨g, o, none⟩ = some (.int .u8 x0)) (c1 : w.cell? ⟨g, o + 1, none⟩ = some (.int .u8 x1)) (c2 : w.cell? ⟨g, o + 2, none⟩ = some (.int .u8 x2)) (c3 : w.cell? ⟨g, o + 3, none⟩ = some (.int .u8 x3))
    (c4 : w.cell? ⟨g, o + 4, none⟩ = some (.int .u8 x4)) (c5 : w.cell? ⟨g, o + 5, none⟩ = some (.int .u8 x5)) (c6 : w.cell? ⟨g, o + 6, none⟩ = some (.int .u8 x6)) (c7 : w.cell? ⟨g, o + 7, none⟩ = some (.int .u8 x7)) :
    Calls Tryd.prog 17 #[.slice (some ⟨g, o, none⟩) n c] w fun e w' => e = .returned (.int .u64 (be8 x0 x1 x2 x3 x4 x5 x6 x7)) ∧ ∃ k, w' = w.drewN k := by
  have q0 : 0 < n := by omega
  have q1 : (1 : Int) < (n : Int) := by omega
  have q2 : (2 : Int) < (n : Int) := by omega
  have q3 : (3 : Int) < (n : Int) := by omega
  have q4 : (4 : Int) < (n : Int) := by omega
  have q5 : (5 : Int) < (n : Int) := by omega
  have q6 : (6 : Int) < (n : Int) := by omega
  have q7 : (7 : Int) < (n : Int) := by omega
  have ho := or8 x0 x1 x2 x3 x4 x5 x6 x7 b0 b1 b2 b3 b4 b5 b6 b7
  have HO : Hid (bits .or .u64 (bits .or .u64 (bits .or .u64 (bits .or .u64 (bits .or .u64 (bits .or .u64 (bits .or .u64 x7 (x6 * 256)) (x5 * 65536)) (x4 * 16777216)) (x3 * 4294967296)) (x2 * 1099511627776)) (x1 * 281474976710656)) (x0 * 72057594037927936) = be8 x0 x1 x2 x3 x4 x5 x6 x7) := ho
  clear ho
  go_enter Tryd.func17, Tryd.ntmps17
  go_wp2
  go_quiet (fail)
  go_wp2
  go_ret
  rw [HO.out]
  exact ⟨rfl, _, rfl⟩

theorem put_parts (x0 x1 x2 x3 x4 x5 x6 x7 : Int) (b0 : 0 ≤ x0 ∧ x0 ≤ 255) (b1 : 0 ≤ x1 ∧ x1 ≤ 255) (b2 : 0 ≤ x2 ∧ x2 ≤ 255) (b3 : 0 ≤ x3 ∧ x3 ≤ 255) (b4 : 0 ≤ x4 ∧ x4 ≤ 255) (b5 : 0 ≤ x5 ∧ x5 ≤ 255) (b6 : 0 ≤ x6 ∧ x6 ≤ 255) (b7 : 0 ≤ x7 ∧ x7 ≤ 255) :
   (0 ≤ be8 x0 x1 x2 x3 x4 x5 x6 x7 ∧ be8 x0 x1 x2 x3 x4 x5 x6 x7 < 18446744073709551616) ∧
   be8 x0 x1 x2 x3 x4 x5 x6 x7 / 72057594037927936 = x0 ∧ be8 x0 x1 x2 x3 x4 x5 x6 x7 / 281474976710656 % 256 = x1 ∧ be8 x0 x1 x2 x3 x4 x5 x6 x7 / 1099511627776 % 256 = x2 ∧ be8 x0 x1 x2 x3 x4 x5 x6 x7 / 4294967296 % 256 = x3 ∧
   be8 x0 x1 x2 x3 x4 x5 x6 x7 / 16777216 % 256 = x4 ∧ be8 x0 x1 x2 x3 x4 x5 x6 x7 / 65536 % 256 = x5 ∧ be8 x0 x1 x2 x3 x4 x5 x6 x7 / 256 % 256 = x6 ∧ be8 x0 x1 x2 x3 x4 x5 x6 x7 % 256 = x7 := by
  unfold be8
  omega

set_option maxHeartbeats 2000000 in
theorem put64 (g o n c : Nat) (v : Int) (x0 x1 x2 x3 x4 x5 x6 x7 : Int) (y0 y1 y2 y3 y4 y5 y6 y7 : Value) (w : World) (hn : 8 ≤ n) (hv : 0 ≤ v) (hv' : v ≤ 18446744073709551615)
    (e0 : v / 72057594037927936 = x0) (e1 : v / 281474976710656 % 256 = x1) (e2 : v / 1099511627776 % 256 = x2) (e3 : v / 4294967296 % 256 = x3) (e4 : v / 16777216 % 256 = x4) (e5 : v / 65536 % 256 = x5) (e6 : v / 256 % 256 = x6) (e7 : v % 256 = x7)
    (c0 : w.cell? ⟨g, o, none⟩ = some y0) (c1 : w.cell? ⟨g, o + 1, none⟩ = some y1) (c2 : w.cell? ⟨g, o + 2, none⟩ = some y2) (c3 : w.cell? ⟨g, o + 3, none⟩ = some y3)
    (c4 : w.cell? ⟨g, o + 4, none⟩ = some y4) (c5 : w.cell? ⟨g, o + 5, none⟩ = some y5) (c6 : w.cell? ⟨g, o + 6, none⟩ = some y6) (c7 : w.cell? ⟨g, o + 7, none⟩ = some y7)
    (f0 : ∀ j, w.frozen? ⟨g, j, none⟩ = false) :
    Calls Tryd.prog 21 #[.slice (some ⟨g, o, none⟩) n c, .int .u64 v] w fun e w' => e = .returned (.tuple #[]) ∧
      w' = (((((((w.setCell ⟨g, o, none⟩ (.int .u8 x0)).setCell ⟨g, o + 1, none⟩ (.int .u8 x1)).setCell ⟨g, o + 2, none⟩ (.int .u8 x2)).setCell ⟨g, o + 3, none⟩ (.int .u8 x3)).setCell ⟨g, o + 4, none⟩ (.int .u8 x4)).setCell ⟨g, o + 5, none⟩ (.int .u8 x5)).setCell ⟨g, o + 6, none⟩ (.int .u8 x6)).setCell ⟨g, o + 7, none⟩ (.int .u8 x7) := by
  go_enter Tryd.func21, Tryd.ntmps21
  go_wp2
  go_end0
  exact ⟨rfl, rfl⟩
end Go.Proofs.Qxb6630228aDoor
