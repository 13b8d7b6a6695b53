import Derived.Test.Qxb6630335aB
namespace Go.Proofs.Qxb6630335a
open Go.ChangeShapes Go.WideShapes Go.ChangeAt Go.RowKit
set_option linter.unusedVariables false

theorem Try.info5 : (Try.prog.info? 5).map (fun i => (i.zero, i.size, i.bytes)) = some (some (.int .u8 0), 1, 1) := by kernel_rfl
theorem Try.info9 : (Try.prog.info? 9).map (fun i => (i.zero, i.size, i.bytes)) = some (some (.string ByteArray.empty), 1, 16) := by kernel_rfl

theorem ownsRow_block {w : World} {base g n : Nat} {e : TypeId} {xs : List Value} (h : w.ownsRow base e 1 (.slice (some ⟨g, 0, none⟩) n n) n xs) : w.heap[g]? = some (.cells xs.toArray e (0, 0)) ∧ xs.length = n ∧ base ≤ g := by
  obtain ⟨h1, h2⟩ := h
  rcases h2 with ⟨h2, _⟩ | ⟨g', cap, cur, hv, hb, hg, hnc, hcm, hcs, htake⟩
  · simp at h2
  · simp only [Value.slice.injEq, Option.some.injEq, Addr.mk.injEq, and_true, true_and] at hv
    obtain ⟨rfl, rfl⟩ := hv
    have e1 : cur.toList = xs := by
      rw [← htake, List.take_of_length_le]; rw [Array.length_toList]; omega
    rw [← e1]
    exact ⟨by simpa using hg, by rw [e1, h1, Nat.mul_one], hb⟩

theorem splice_all {α : Type} (L cs : List α) (h : cs.length = L.length) : splice L 0 cs = cs := by
  simp [splice, h]

theorem cell_of_row {w : World} {g j : Nat} {e : TypeId} {xs : List Value} {v : Value} (h : w.heap[g]? = some (.cells xs.toArray e (0, 0))) (hj : xs[j]? = some v) : w.cell? ⟨g, j, none⟩ = some v := by
  have h1 : j < xs.length := (List.getElem?_eq_some_iff.1 hj).1
  simp [World.cell?, h, hj]

theorem strs_of_row {w : World} {g n : Nat} {ss : List ByteArray} (h : w.heap[g]? = some (.cells (ss.map Value.string).toArray 9 (0, 0))) (hn : ss.length = n) (hsz : ∀ k, k < n → (st ss k).size ≤ 1048576) : Strs w (some ⟨g, 0, none⟩) n ss := by
  refine ⟨hn, fun j hj => ⟨g, 0, rfl, ?_, ?_⟩⟩
  · rw [Nat.zero_add]
    exact cell_of_row h (by simp [st, List.getD, hn, hj])
  · have := hsz j hj; unfold maxLen; omega

theorem bts_of_row {w : World} {g m : Nat} {zs : List Int} (h : w.heap[g]? = some (.cells (zs.map (Value.int .u8)).toArray 5 (0, 0))) (hn : zs.length = m) (hb : Bytes zs) : Bts w (some ⟨g, 0, none⟩) m zs := by
  refine ⟨hn, hb, fun j hj => ⟨g, 0, rfl, ?_⟩⟩
  rw [Nat.zero_add]
  exact cell_of_row h (by simp [List.getD, hn, hj])

theorem strs_src {w : World} {ao : Option Addr} {n : Nat} {ss : List ByteArray} (h : Strs w ao n ss) (hp : 0 < n) : ∃ ad, ao = some ad ∧ ∀ j v, (ss.map Value.string)[j]? = some v → w.cell? (ad.add j) = some v := by
  obtain ⟨g, off, rfl, _⟩ := h.2 0 hp
  refine ⟨_, rfl, fun j v hj => ?_⟩
  simp only [List.getElem?_map, Option.map_eq_some_iff] at hj
  obtain ⟨s, hs, rfl⟩ := hj
  have hlt : j < n := by have := (List.getElem?_eq_some_iff.1 hs).1; have := h.1; omega
  obtain ⟨g', off', e, hc, _⟩ := h.2 j hlt
  cases e
  rw [Addr.add_lit, hc]
  simp [st, List.getD, hs]

theorem bts_src {w : World} {ao : Option Addr} {m : Nat} {zs : List Int} (h : Bts w ao m zs) (hp : 0 < m) : ∃ ad, ao = some ad ∧ ∀ j v, (zs.map (Value.int .u8))[j]? = some v → w.cell? (ad.add j) = some v := by
  obtain ⟨g, off, rfl, _⟩ := h.2.2 0 hp
  refine ⟨_, rfl, fun j v hj => ?_⟩
  simp only [List.getElem?_map, Option.map_eq_some_iff] at hj
  obtain ⟨s, hs, rfl⟩ := hj
  have hlt : j < m := by have := (List.getElem?_eq_some_iff.1 hs).1; have := h.1; omega
  obtain ⟨g', off', e, hc⟩ := h.2.2 j hlt
  cases e
  rw [Addr.add_lit, hc]
  simp [List.getD, hs]

theorem strs_one (ss : List ByteArray) : ∀ v ∈ ss.map Value.string, v.oneCell' = true := by
  intro u hu
  obtain ⟨_, _, rfl⟩ := List.mem_map.1 hu
  rfl
end Go.Proofs.Qxb6630335a
