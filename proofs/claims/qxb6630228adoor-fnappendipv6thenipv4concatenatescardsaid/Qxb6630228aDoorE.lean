import Derived.Test.Qxb6630228aDoorD
import Derived.Lay
import Derived.LaidLaws
import Derived.OpenShut
import Derived.ShutString
import Derived.ChangeOld
import Derived.SevenTiedAt
import Derived.LaidByTextLater
namespace Go.Proofs.Qxb6630228aDoor
open Go.ChangeShapes Go.WideShapes Go.ChangeAt Go.RowKit
set_option linter.unusedVariables false

theorem own : ownKnob Tryd.prog.godebug = none := by kernel_rfl
theorem laidOut : laidOutB Tryd.prog = true := by kernel_rfl
theorem Tryd.cells5 : Tryd.prog.cellsOf 5 = 1 := by kernel_rfl
theorem Tryd.cells34 : Tryd.prog.cellsOf 34 = 1 := by kernel_rfl
theorem Tryd.cells36 : Tryd.prog.cellsOf 36 = 1 := by kernel_rfl
theorem Tryd.cells72 : Tryd.prog.cellsOf 72 = 2 := by kernel_rfl
/-- The three listed variables' names, off the given row's own list. -/
def n4 : String := ((Rows.fnAppendIPv6ThenIPv4ConcatenatesRow.laid.map (·.1))[0]?).getD ""
def n6 : String := ((Rows.fnAppendIPv6ThenIPv4ConcatenatesRow.laid.map (·.1))[1]?).getD ""
def n0 : String := ((Rows.fnAppendIPv6ThenIPv4ConcatenatesRow.laid.map (·.1))[2]?).getD ""
theorem Tryd.z4 : Tryd.prog.globalNamed n4 = some 0 := by kernel_rfl
theorem Tryd.z6noz : Tryd.prog.globalNamed n6 = some 1 := by kernel_rfl
theorem Tryd.z0 : Tryd.prog.globalNamed n0 = some 2 := by kernel_rfl
theorem Tryd.z4Type : (Tryd.prog.globals[0]?).map (·.type) = some 36 := by kernel_rfl
theorem Tryd.z6nozType : (Tryd.prog.globals[1]?).map (·.type) = some 36 := by kernel_rfl
theorem Tryd.z0Type : (Tryd.prog.globals[2]?).map (·.type) = some 36 := by kernel_rfl

/-- A handle that reads as 'a pointer to ..': the one cell holds a pointer that is not nil. -/
theorem handle_of_trod {H : Type} {enc : TypeId × Value → H} {W : World} {sp : Nat → Bool} {held : Bool} {fuel : Nat} {cs : List Value} {d : DataW H} {p : List MemPlace} (h : DataW.trod enc Tryd.prog W 0 sp held fuel 36 cs = some (.agg [.ptr d], p)) :
    ∃ a q, cs = [.pointer (some a)] ∧ p = MemPlace.row a 2 ++ q := by
  obtain ⟨y0, n, hx, hl, h0⟩ := trod_struct1 Tryd.underlying36 h
  rw [Tryd.cells36] at hl
  match cs, hl with
  | [c], _ =>
    simp only [Prod.mk.injEq, DataW.agg.injEq, List.cons.injEq, and_true] at hx
    obtain ⟨y1, y2⟩ := y0
    obtain ⟨rfl, rfl⟩ := hx
    simp only [Tryd.cells34, List.drop_zero, List.take_succ_cons, List.take_zero] at h0
    obtain ⟨f2, a, cs', q, hc, _, _, hp⟩ := ptr_of_trod Tryd.underlying34 h0
    rw [Tryd.cells72] at hp
    exact ⟨a, q, hc, hp⟩

theorem one_of_trod {H : Type} {enc : TypeId × Value → H} {W : World} {sp : Nat → Bool} {held : Bool} {fuel : Nat} {cs : List Value} {x : DataW H × List MemPlace} (h : DataW.trod enc Tryd.prog W 0 sp held fuel 36 cs = some x) : cs.length = 1 := by
  obtain ⟨y0, n, hx, hl, h0⟩ := trod_struct1 Tryd.underlying36 h
  rw [hl, Tryd.cells36]

theorem of_laid4 {W : World} (h : laidMetH Tryd.prog Rows.fnAppendIPv4IsPrefixedFourBytesRow.laid W) : (∃ a, W.cell? ⟨0, 0, none⟩ = some (.pointer (some a))) ∧ 3 ≤ W.heap.size := by
  rw [MakeChecks.laidMetH_plain _ _ _ (by kernel_rfl)] at h
  obtain ⟨ps, ⟨g0, t0, cs0, f0, p0, q0, hg0, ht0, hv0, hd0, ⟨g1, t1, cs1, f1, p1, q1, hg1, ht1, hv1, hd1, hq1, e1⟩, e0⟩, hnd, hrows⟩ := h
  obtain rfl := Option.some.inj (Tryd.z4.symm.trans hg0)
  obtain rfl := Option.some.inj (Tryd.z0.symm.trans hg1)
  obtain rfl := Option.some.inj (Tryd.z4Type.symm.trans ht0)
  obtain rfl := Option.some.inj (Tryd.z0Type.symm.trans ht1)
  obtain ⟨a, q, hc, _⟩ := handle_of_trod hd0
  have h1 := one_of_trod hd1
  obtain ⟨l0⟩ := cs0
  obtain ⟨l1⟩ := cs1
  simp only at hc h1
  subst hc
  refine ⟨⟨a, by simpa using World.var?_cell Tryd.z4 hv0 0⟩, ?_⟩
  match l1, h1 with
  | [c], _ =>
    have := World.var?_cell Tryd.z0 hv1 0
    have hlt := World.block_lt_of_cell? W ⟨2, 0, none⟩ (u := c) (by simpa using this)
    simp at hlt
    omega

/-- AN ARRAY OF BYTES BY VALUE, opened: the value written out, each byte within its bounds. -/
theorem open_array {H : Type} {enc : TypeId × Value → H} {W : World} {base0 base : Nat} {r : Reach} {sp : Nat → Bool} {held : Bool} {t n : Nat} {v : Value} {d : DataW H} {p : List MemPlace} (ht : Tryd.prog.underlying t = some (.array n 5)) (hC : Tryd.prog.cellsOf t = n)
    (hv : Value.okWide Tryd.prog W r base0 t v) (h : DataW.Trod enc Tryd.prog W base sp held t v d p) :
    ∃ xs : List Int, xs.length = n ∧ v = .agg (xs.map (Value.int .u8)).toArray ∧ ∀ a ∈ xs, 0 ≤ a ∧ a ≤ 255 := by
  simp only [Value.okWide, ht] at hv
  obtain ⟨cs, rfl, hsz, _⟩ := hv
  obtain ⟨fuel, hf⟩ := h
  obtain ⟨xs, m, _, _, hlen, hxl, hel⟩ := DataW.trod_array ht hf
  have hlen' : cs.size = n := hsz.trans hC
  have hat : ∀ i (hi : i < cs.size), ∃ a, cs[i] = .int .u8 a ∧ 0 ≤ a ∧ a ≤ 255 := by
    intro i hi
    have h1 := hel i (by omega)
    have h2 : ((Value.agg cs).cells.toList.drop (i * Tryd.prog.cellsOf 5)).take (Tryd.prog.cellsOf 5) = [cs[i]] := by
      rw [Tryd.cells5, Nat.mul_one]
      simp only [Value.cells]
      rw [List.drop_eq_getElem_cons (by simpa using hi)]
      simp
    rw [h2] at h1
    have h3 : xs[i]? = some (xs[i]'(by omega)) := by simp
    rw [h3] at h1
    obtain ⟨a, e, _, wa⟩ := DataW.trod_int Tryd.underlying5 h1
    exact ⟨a, by simpa using e, bounds_u8 wa⟩
  refine ⟨cs.toList.map intOf, by simpa using hlen', ?_, ?_⟩
  · congr 1
    apply Array.ext
    · simp
    · intro i h1 h2
      obtain ⟨a, e, _⟩ := hat i h1
      simp [e, intOf]
  · intro a ha
    simp only [List.mem_map] at ha
    obtain ⟨c, hc, rfl⟩ := ha
    obtain ⟨i, hi, rfl⟩ := List.getElem_of_mem hc
    obtain ⟨a, e, hb⟩ := hat i (by simpa using hi)
    have e' : cs.toList[i] = .int .u8 a := by simpa using e
    rw [e']
    exact hb
end Go.Proofs.Qxb6630228aDoor
