import Derived.Test.Qxb6630228aDoorRows
import Derived.WalkKit
import Derived.ProofKit
import Derived.Handy
import Derived.WalkSpells
import Derived.Lib.EndianBits
import Derived.Deep.QuietTactic
import Derived.BigQuiet
import Derived.Deep.RegionWith
import Derived.LaidEqlPtr
namespace Go.Proofs.Qxb6630228aDoor
open Go.ChangeShapes Go.WideShapes Go.ChangeAt Go.RowKit
set_option linter.unusedVariables false

theorem or4 (a0 a1 a2 a3 : Int) (b0 : 0 ≤ a0 ∧ a0 ≤ 255) (b1 : 0 ≤ a1 ∧ a1 ≤ 255) (b2 : 0 ≤ a2 ∧ a2 ≤ 255) (b3 : 0 ≤ a3 ∧ a3 ≤ 255) :
   (bits BinOp.or IntKind.u64 (bits BinOp.or IntKind.u64 (bits BinOp.or IntKind.u64 (bits BinOp.or IntKind.u64 281470681743360 (a0 * 16777216)) (a1 * 65536)) (a2 * 256)) a3) = 281470681743360 + a0 * 16777216 + a1 * 65536 + a2 * 256 + a3 := by
  have c1 : bits BinOp.or IntKind.u64 281470681743360 (a0 * 16777216) = 281470681743360 + a0 * 16777216 :=
    bits_join .u64 64 (by decide) wraps_u64 32 _ _ (by omega) (by omega) (by omega) (by omega) (by omega) (by omega)
  have c2 : bits BinOp.or IntKind.u64 (281470681743360 + a0 * 16777216) (a1 * 65536) = 281470681743360 + a0 * 16777216 + a1 * 65536 :=
    bits_join .u64 64 (by decide) wraps_u64 24 _ _ (by omega) (by omega) (by omega) (by omega) (by omega) (by omega)
  have c3 : bits BinOp.or IntKind.u64 (281470681743360 + a0 * 16777216 + a1 * 65536) (a2 * 256) = 281470681743360 + a0 * 16777216 + a1 * 65536 + a2 * 256 :=
    bits_join .u64 64 (by decide) wraps_u64 16 _ _ (by omega) (by omega) (by omega) (by omega) (by omega) (by omega)
  have c4 : bits BinOp.or IntKind.u64 (281470681743360 + a0 * 16777216 + a1 * 65536 + a2 * 256) a3 = 281470681743360 + a0 * 16777216 + a1 * 65536 + a2 * 256 + a3 :=
    bits_join .u64 64 (by decide) wraps_u64 8 _ _ (by omega) (by omega) (by omega) (by omega) (by omega) (by omega)
  rw [c1, c2, c3, c4]

set_option maxHeartbeats 400000 in
theorem addrFrom4_any (a0 a1 a2 a3 : Int) (z : Option Addr) (w : World) (hs : 0 < w.heap.size) (hz : w.cell? ⟨0, 0, none⟩ = some (.pointer z))
   (b0 : 0 ≤ a0 ∧ a0 ≤ 255) (b1 : 0 ≤ a1 ∧ a1 ≤ 255) (b2 : 0 ≤ a2 ∧ a2 ≤ 255) (b3 : 0 ≤ a3 ∧ a3 ≤ 255) :
    Calls Tryd.prog 11 #[.agg #[.int .u8 a0, .int .u8 a1, .int .u8 a2, .int .u8 a3]] w fun e w' => e = .returned (.agg #[.int .u64 0, .int .u64 (281470681743360 + a0 * 16777216 + a1 * 65536 + a2 * 256 + a3), .pointer z]) ∧ Below w.heap.size w w' := by
  have ho := or4 a0 a1 a2 a3 b0 b1 b2 b3
  go_enter Tryd.func11, Tryd.ntmps11
  go_wp2
  go_returns
  refine ⟨rfl, ?_⟩
  go_grown

theorem eq_same (a : Addr) (w : World) : (Op.equalIn 9999 34 (.pointer (some a)) (.pointer (some a))).run Tryd.prog w = .ok true w := by
  obtain ⟨j, hj, _, _, _⟩ := info_parts (P := Tryd.prog) (e := Tryd.prog.pointee 34) (z := .agg #[.bool false, .string ByteArray.empty]) (size := 2) (bytes := 24) (by kernel_rfl)
  have hp : Tryd.prog.underlying 34 = some (.pointer (Tryd.prog.pointee 34)) := by kernel_rfl
  have h : ∀ d : Nat, (Op.equalIn (d + 1) 34 (.pointer (some a)) (.pointer (some a))).run Tryd.prog w = .ok true w := fun d => by
    simp [Op.equalIn, run_underlying hp, sizeOf, typeInfo, hj, run_sameAddr_same]
  exact h 9998

theorem eq_other {a b : Addr} {ca cb : Array Value} {ta tb : TypeId} (w : World) (hne : a ≠ b) (ha : w.heap[a.block]? = some (.cells ca ta (0, 0))) (hb : w.heap[b.block]? = some (.cells cb tb (0, 0))) :
    (Op.equalIn 9999 34 (.pointer (some a)) (.pointer (some b))).run Tryd.prog w = .ok false w := by
  obtain ⟨j, hj, _, hsz, _⟩ := info_parts (P := Tryd.prog) (e := Tryd.prog.pointee 34) (z := .agg #[.bool false, .string ByteArray.empty]) (size := 2) (bytes := 24) (by kernel_rfl)
  have hp : Tryd.prog.underlying 34 = some (.pointer (Tryd.prog.pointee 34)) := by kernel_rfl
  have h : ∀ d : Nat, (Op.equalIn (d + 1) 34 (.pointer (some a)) (.pointer (some b))).run Tryd.prog w = .ok false w := fun d => by
    simp [Op.equalIn, run_underlying hp, sizeOf, typeInfo, hj, hsz, run_sameAddr_other w hne ha hb]
  exact h 9998

set_option maxHeartbeats 400000 in
theorem is4_yes (x y : Int) (z : Addr) (w : World) (hs : 0 < w.heap.size) (hz : w.cell? ⟨0, 0, none⟩ = some (.pointer (some z))) :
    Calls Tryd.prog 13 #[.agg #[.int .u64 x, .int .u64 y, .pointer (some z)]] w fun e w' => e = .returned (.bool true) ∧ Below w.heap.size w w' := by
  have he := eq_same z
  go_enter Tryd.func13, Tryd.ntmps13
  go_wp2
  go_returns
  refine ⟨rfl, ?_⟩
  go_grown

set_option maxHeartbeats 400000 in
theorem is4_no (x y : Int) (z z6 : Addr) (w : World) {ca cb : Array Value} {ta tb : TypeId} (hs : 0 < w.heap.size) (hz : w.cell? ⟨0, 0, none⟩ = some (.pointer (some z)))
    (hne : z6 ≠ z) (ha : w.heap[z6.block]? = some (.cells ca ta (0, 0))) (hb : w.heap[z.block]? = some (.cells cb tb (0, 0))) :
    Calls Tryd.prog 13 #[.agg #[.int .u64 x, .int .u64 y, .pointer (some z6)]] w fun e w' => e = .returned (.bool false) ∧ Below w.heap.size w w' := by
  have he : ∀ o, (Op.equalIn 9999 34 (.pointer (some z6)) (.pointer (some z))).run Tryd.prog (w.alloc o) = .ok false (w.alloc o) := fun o =>
    eq_other _ hne (by rw [Below.heap_alloc _ _ _ (by have := (Array.getElem?_eq_some_iff.1 ha).1; exact this)]; exact ha) (by rw [Below.heap_alloc _ _ _ (by have := (Array.getElem?_eq_some_iff.1 hb).1; exact this)]; exact hb)
  clear ha hb hne
  go_enter Tryd.func13, Tryd.ntmps13
  go_wp2
  go_returns
  refine ⟨rfl, ?_⟩
  go_grown

set_option maxHeartbeats 400000 in
theorem put32 (a0 a1 a2 a3 : Int) (w : World) (g : Nat) (hg : w.heap.size = g)
   (b0 : 0 ≤ a0 ∧ a0 ≤ 255) (b1 : 0 ≤ a1 ∧ a1 ≤ 255) (b2 : 0 ≤ a2 ∧ a2 ≤ 255) (b3 : 0 ≤ a3 ∧ a3 ≤ 255) :
    Calls Tryd.prog 19 #[.slice (some ⟨g, 0, none⟩) 4 4, .int .u32 (a0 * 16777216 + a1 * 65536 + a2 * 256 + a3)] (w.alloc (.cells #[.int .u8 0, .int .u8 0, .int .u8 0, .int .u8 0] 23)).drew fun e w' => e = .returned (.tuple #[]) ∧
      w' = (w.alloc (.cells #[.int .u8 a0, .int .u8 a1, .int .u8 a2, .int .u8 a3] 23)).drew := by
  have e0 : (a0 * 16777216 + a1 * 65536 + a2 * 256 + a3) / 16777216 = a0 := by omega
  have e1 : (a0 * 16777216 + a1 * 65536 + a2 * 256 + a3) / 65536 % 256 = a1 := by omega
  have e2 : (a0 * 16777216 + a1 * 65536 + a2 * 256 + a3) / 256 % 256 = a2 := by omega
  have e3 : (a0 * 16777216 + a1 * 65536 + a2 * 256 + a3) % 256 = a3 := by omega
  subst hg
  go_enter Tryd.func19, Tryd.ntmps19
  go_wp2
  go_end0
  exact ⟨rfl, rfl⟩

set_option maxHeartbeats 1000000 in
theorem as4_any (a0 a1 a2 a3 : Int) (z : Addr) (w : World) (hs : 0 < w.heap.size) (hz : w.cell? ⟨0, 0, none⟩ = some (.pointer (some z)))
   (b0 : 0 ≤ a0 ∧ a0 ≤ 255) (b1 : 0 ≤ a1 ∧ a1 ≤ 255) (b2 : 0 ≤ a2 ∧ a2 ≤ 255) (b3 : 0 ≤ a3 ∧ a3 ≤ 255) :
    Calls Tryd.prog 14 #[.agg #[.int .u64 0, .int .u64 (281470681743360 + a0 * 16777216 + a1 * 65536 + a2 * 256 + a3), .pointer (some z)]] w fun e w' => e = .returned (.agg #[.int .u8 a0, .int .u8 a1, .int .u8 a2, .int .u8 a3]) ∧ Below w.heap.size w w' := by
  have he := eq_same z
  have hwr : IntKind.u32.wrap (281470681743360 + a0 * 16777216 + a1 * 65536 + a2 * 256 + a3) = a0 * 16777216 + a1 * 65536 + a2 * 256 + a3 := by
    rw [IntKind.wrap_u32]; omega
  go_enter Tryd.func14, Tryd.ntmps14
  go_wp2
  go_region_with (go_at_call 19; refine (put32 a0 a1 a2 a3 (w.alloc _) (w.heap.size + 1) (by simp) b0 b1 b2 b3).mono ?_; rintro e w' ⟨rfl, rfl⟩)
  go_wp2
  go_returns
  refine ⟨rfl, ?_⟩
  go_grown
end Go.Proofs.Qxb6630228aDoor
