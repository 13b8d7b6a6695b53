import Derived.Test.Qxb6630335aC
import Derived.OpenShut
import Derived.ShutString
import Derived.ChangeOld
import Derived.SliceStrings
namespace Go.Proofs.Qxb6630335a
open Go.ChangeShapes Go.WideShapes Go.ChangeAt Go.RowKit
set_option linter.unusedVariables false

theorem own : ownKnob Try.prog.godebug = none := by kernel_rfl
theorem laidOut : laidOutB Try.prog = true := by kernel_rfl
theorem Try.cells9 : Try.prog.cellsOf 9 = 1 := by kernel_rfl
theorem Try.cells5 : Try.prog.cellsOf 5 = 1 := by kernel_rfl

theorem spot_none {w : World} {x : Addr} {v : Value} (h : w.cell? (x.add 0) = some v) : ∃ b off, x = ⟨b, off, none⟩ := by
  obtain ⟨b, off, spot⟩ := x
  have hspot : spot = none := by simpa [Addr.add] using World.cell?_spot h
  subst hspot
  exact ⟨b, off, rfl⟩

/-- A slice of strings that came in. -/
theorem open_strs' {H : Type} {enc : TypeId × Value → H} {W : World} {a : Option Addr} {len cap : Nat} {d : DataW H} {p : List MemPlace} (h : DataW.Trod enc Try.prog W 0 (fun _ => true) true 22 (.slice a len cap) d p) :
    ∃ ss : List ByteArray, len ≤ maxLen ∧ (a = none → len = 0 ∧ cap = 0) ∧ Strs W a len ss := by
  obtain ⟨fuel, hf⟩ := h
  rcases open_strings Try.underlying22 Try.underlying9 Try.cells9 hf with ⟨hcs, _⟩ | ⟨x, l, c, ss, hcs, _, hl, hm, hz, _, hcell, hwz⟩
  · simp [Value.cells] at hcs
    obtain ⟨rfl, rfl, rfl⟩ := hcs
    exact ⟨[], Nat.zero_le _, fun _ => ⟨rfl, rfl⟩, rfl, fun j hj => absurd hj (by omega)⟩
  · simp [Value.cells] at hcs
    obtain ⟨rfl, rfl, rfl⟩ := hcs
    have hz' : ss.length = cap := by simpa using hz
    refine ⟨ss.take len, by omega, fun h => (by cases h), by simp; omega, fun j hj => ?_⟩
    obtain ⟨b, off, rfl⟩ := spot_none (hcell 0 (by omega))
    have e : st (ss.take len) j = ss.getD j ByteArray.empty := by simp [st, List.getD, hj]
    refine ⟨b, off, rfl, ?_, ?_⟩
    · rw [e, ← Go.WideShapes.add_plain]; exact hcell j (by omega)
    · rw [e]
      have hj' : j < ss.length := by omega
      rw [List.getD_eq_getElem?_getD, List.getElem?_eq_getElem hj']
      exact hwz _ (List.getElem_mem hj')

/-- A slice of bytes that came in. -/
theorem open_bts {H : Type} {enc : TypeId × Value → H} {W : World} {a : Option Addr} {len cap : Nat} {d : DataW H} {p : List MemPlace} (h : DataW.Trod enc Try.prog W 0 (fun _ => true) true 23 (.slice a len cap) d p) :
    ∃ zs : List Int, len ≤ maxLen ∧ (a = none → len = 0 ∧ cap = 0) ∧ Bts W a len zs := by
  obtain ⟨fuel, hf⟩ := h
  rcases open_ints Try.underlying23 Try.underlying5 Try.cells5 hf with ⟨hcs, _⟩ | ⟨x, l, c, zs, hcs, _, hl, hm, hz, _, hcell, hwz⟩
  · simp [Value.cells] at hcs
    obtain ⟨rfl, rfl, rfl⟩ := hcs
    exact ⟨[], Nat.zero_le _, fun _ => ⟨rfl, rfl⟩, rfl, fun j hj => absurd hj (by simp), fun j hj => absurd hj (by omega)⟩
  · simp [Value.cells] at hcs
    obtain ⟨rfl, rfl, rfl⟩ := hcs
    have hz' : zs.length = cap := by simpa using hz
    have e : ∀ j, j < len → (zs.take len).getD j 0 = zs.getD j 0 := fun j hj => by simp [List.getD, hj]
    have hlen : (zs.take len).length = len := by simp; omega
    refine ⟨zs.take len, by omega, fun h => (by cases h), hlen, fun j hj => ?_, fun j hj => ?_⟩
    · rw [e j (by omega)]
      have hj' : j < zs.length := by omega
      rw [List.getD_eq_getElem?_getD, List.getElem?_eq_getElem hj']
      exact bounds_u8 (hwz _ (List.getElem_mem hj'))
    · obtain ⟨b, off, rfl⟩ := spot_none (hcell 0 (by omega))
      refine ⟨b, off, rfl, ?_⟩
      rw [e j hj, ← Go.WideShapes.add_plain]; exact hcell j (by omega)
end Go.Proofs.Qxb6630335a
