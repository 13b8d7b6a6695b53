import Derived.Test.Qxb6630228aDoorB
namespace Go.Proofs.Qxb6630228aDoor
open Go.ChangeShapes Go.WideShapes Go.ChangeAt Go.RowKit
set_option linter.unusedVariables false

/-- A slice of bytes that is nil, or whose first 'len' cells hold 'zs'; its capacity is its length. -/
def Full (w : World) (ao : Option Addr) (len : Nat) (zs : List Int) : Prop :=
  zs.length = len ∧ ((ao = none ∧ len = 0) ∨ ∃ g, ao = some ⟨g, 0, none⟩ ∧ g < w.heap.size ∧ ∀ j, j < len → w.cell? ⟨g, j, none⟩ = some (.int .u8 (zs.getD j 0)))

theorem Full.later {w w1 : World} {ao : Option Addr} {len : Nat} {zs : List Int} (h : Full w ao len zs) (hb : Below w.heap.size w w1) : Full w1 ao len zs := by
  obtain ⟨h1, h2⟩ := h
  refine ⟨h1, ?_⟩
  rcases h2 with h2 | ⟨g, h2, hlt, h3⟩
  · exact .inl h2
  · exact .inr ⟨g, h2, Nat.lt_of_lt_of_le hlt hb.size, fun j hj => cell_later hb (h3 j hj)⟩

theorem getD_map_some (zs : List Int) (j : Nat) (u : Value) (h : (zs.map (Value.int .u8))[j]? = some u) : u = .int .u8 (zs.getD j 0) ∧ j < zs.length := by
  simp only [List.getElem?_map, Option.map_eq_some_iff] at h
  obtain ⟨x, hx, rfl⟩ := h
  have := (List.getElem?_eq_some_iff.1 hx).1
  refine ⟨?_, this⟩
  simp only [List.getD, hx, Option.getD_some]

theorem Full.src {w : World} {ao : Option Addr} {len : Nat} {zs : List Int} (h : Full w ao len zs) {base : Nat} (hb : base ≤ w.heap.size) : Src w base (.slice ao len len) len (zs.map (Value.int .u8)) none := by
  obtain ⟨h1, h2⟩ := h
  refine ⟨by simpa using h1, hb, .inr ⟨ao, rfl, ?_, ?_, rfl⟩⟩
  · rcases h2 with h2 | ⟨g, rfl, hlt, h3⟩
    · exact fun _ => h2.2
    · intro h; cases h
  · rcases h2 with ⟨rfl, rfl⟩ | ⟨g, rfl, hlt, h3⟩
    · intro b h; cases h
    · intro b h j u hj
      cases h
      obtain ⟨rfl, hj'⟩ := getD_map_some zs j u hj
      rw [Addr.add_lit, Nat.zero_add]
      exact h3 j (by omega)

theorem clone_nil (w : World) : Calls Tryd.prog 6 #[.slice none 0 0] w fun e w' => e = .returned (.slice none 0 0) ∧ w' = w := by
  have hn := fun w => Lib.run_eql_slice_nil (P := Tryd.prog) w 22 5 none 0 0 0 0 Tryd.underlying22
  go_enter Tryd.func6, Tryd.ntmps6
  go_wp2
  go_ret
  exact ⟨rfl, rfl⟩

set_option maxHeartbeats 1000000 in
theorem clone_some (x : Addr) (len cap : Nat) (zs : List Int) (w : World) (hlen : len ≤ 1048576) (hcell : ∀ j, j < len → w.cell? (x.add j) = some (.int .u8 (zs.getD j 0))) :
    Calls Tryd.prog 6 #[.slice (some x) len cap] w fun e w' => e = .returned (.slice (some ⟨w.heap.size, 0, none⟩) len len) ∧ Below w.heap.size w w' ∧ w.heap.size < w'.heap.size ∧
      ∀ j, j < len → w'.cell? ⟨w.heap.size, j, none⟩ = some (.int .u8 (zs.getD j 0)) := by
  obtain ⟨i0, hi, hz0, hz1, hz2⟩ := info_parts Tryd.info5
  have hn := fun w => Lib.run_eql_slice_nil (P := Tryd.prog) w 22 5 (some x) len cap 0 0 Tryd.underlying22
  rcases Nat.eq_zero_or_pos len with rfl | hpos
  · clear hcell
    have hmk : ∀ w, (Instr.makeSlice 22 (.int .i64 0) (.int .i64 0)).run Tryd.prog w = .ok (.slice (some ⟨w.heap.size, 0, none⟩) 0 0) (w.alloc (.cells #[] 5)) := fun _ => by kernel_rfl
    go_enter Tryd.func6, Tryd.ntmps6
    go_wp2
    go_rounds 1
    go_ret
    exact ⟨rfl, (Below.refl _ _).alloc (Nat.le_refl _) _, by simp, fun j hj => absurd hj (by omega)⟩
  · obtain ⟨b, off, spot⟩ := x
    have hspot : spot = none := by simpa [Addr.add] using World.cell?_spot (hcell 0 hpos)
    subst hspot
    have hcell' : ∀ j, j < len → w.cell? ⟨b, off + j, none⟩ = some (.int .u8 (zs.getD j 0)) := fun j hj => by rw [← Go.WideShapes.add_plain]; exact hcell j hj
    have HC : Hid (∀ j, j < len → w.cell? ⟨b, off + j, none⟩ = some (.int .u8 (zs.getD j 0))) := hcell'
    have hblk : b < w.heap.size := World.block_lt_of_cell? _ _ (hcell' 0 hpos)
    clear hcell hcell'
    go_enter Tryd.func6, Tryd.ntmps6
    go_wp2_with (at_make; refine wpList_make_full _ rfl _ _ 22 rfl w.heap.size 5 i0 (.int .u8 0) 1 Tryd.underlying22 hi hz0 hz1 _ _ _ _ len rfl rfl (by omega) (by omega) ?c1 ?c2 ?c3 ?_)
    case c1 => rw [hz2]; omega
    case c2 => unfold maxLen; omega
    case c3 => exact Nat.le_refl _
    intro w1 hown hgrow
    have hbel : Below w.heap.size w w1 := (Below.refl _ _).grown hgrow (Nat.le_refl _) (fun k hk => by cases hk)
    clear hgrow hi hz0 hz1 hz2
    go_wp2
    go_loopw [4] (fun i wr => ∃ k : Nat, k ≤ len ∧ i = .int .i64 k ∧ Below w.heap.size w wr ∧ ∃ ys, wr.ownsRow w.heap.size 5 1 (.slice (some ⟨w.heap.size, 0, none⟩) len len) len ys ∧ ∀ j, j < k → ys[j]? = some (.int .u8 (zs.getD j 0))) (fun i _ => len - (intOf i).toNat)
    case atStart => exact ⟨0, Nat.zero_le _, rfl, hbel, _, hown, fun j hj => absurd hj (by omega)⟩
    case round =>
      obtain ⟨k, hk, rfl, hbk, ys, hyo, hys⟩ := hrel
      by_cases hlt : k < len
      · have hcx : wr.cell? ⟨b, off + k, none⟩ = some (.int .u8 (zs.getD k 0)) := (hbk.cell (by exact hblk)).trans (HC.out k hlt)
        have hyl : ys.length = len := by simpa using hyo.1
        have hcy : wr.cell? ⟨w.heap.size, k, none⟩ = some (ys[k]'(by omega)) := by rw [hyo.cellAt k (by omega)]; simp
        have hfy : wr.frozen? ⟨w.heap.size, k, none⟩ = false := hyo.frozenAt k
        have hst := (hyo.stored k (.int .u8 (zs.getD k 0))).1
        go_wp2
        go_roundw
        case rel =>
          refine ⟨k + 1, hlt, by go_num, hbk.setCell (Nat.le_refl _) _, _, hst, fun j hj => ?_⟩
          by_cases hjk : j = k
          · subst hjk; rw [List.getElem?_set_self (by omega)]
          · rw [List.getElem?_set_ne (by omega)]; exact hys j (by omega)
        case measure => simp [intOf]; omega
      · have hkl : k = len := by omega
        subst hkl
        go_wp2
        go_ret
        refine ⟨rfl, hbk, (hyo.lt _ rfl).2, fun j hj => ?_⟩
        rw [hyo.cellAt j (by omega)]
        exact hys j hj

theorem clone_full (ao : Option Addr) (len cap : Nat) (zs : List Int) (w : World) (hlen : len ≤ 1048576) (hz : zs.length = len) (hnil : ao = none → len = 0 ∧ cap = 0) (hcell : ∀ x, ao = some x → ∀ j, j < len → w.cell? (x.add j) = some (.int .u8 (zs.getD j 0))) :
    Calls Tryd.prog 6 #[.slice ao len cap] w fun e w' => ∃ ao', e = .returned (.slice ao' len len) ∧ Full w' ao' len zs ∧ Below w.heap.size w w' := by
  cases ao with
  | none =>
    obtain ⟨rfl, rfl⟩ := hnil rfl
    refine (clone_nil w).mono ?_
    rintro e w' ⟨rfl, rfl⟩
    exact ⟨none, rfl, ⟨hz, .inl ⟨rfl, rfl⟩⟩, Below.refl _ _⟩
  | some x =>
    refine (clone_some x len cap zs w hlen (hcell x rfl)).mono ?_
    rintro e w' ⟨rfl, hb, hlt, hc⟩
    exact ⟨_, rfl, ⟨hz, .inr ⟨_, rfl, hlt, hc⟩⟩, hb⟩

set_option maxHeartbeats 400000 in
theorem bytes4_any (ao : Option Addr) (len cap : Nat) (a0 a1 a2 a3 : Int) (w : World) (hm : len ≤ 9223372036854775807) :
    Calls Tryd.prog 5 #[.slice ao len cap, .agg #[.int .u8 a0, .int .u8 a1, .int .u8 a2, .int .u8 a3]] w fun e w' => e = .returned (.bool (decide (len ≤ 1048576))) ∧ Below w.heap.size w w' := by
  by_cases h : len ≤ 1048576
  · have hd : decide (len ≤ 1048576) = true := by simpa using h
    rw [hd]
    clear hd
    go_enter Tryd.func5, Tryd.ntmps5
    go_wp2
    go_ret
    refine ⟨rfl, ?_⟩
    go_grown
  · have hd : decide (len ≤ 1048576) = false := by simpa using h
    rw [hd]
    clear hd
    go_enter Tryd.func5, Tryd.ntmps5
    go_wp2
    go_ret
    refine ⟨rfl, ?_⟩
    go_grown
end Go.Proofs.Qxb6630228aDoor
