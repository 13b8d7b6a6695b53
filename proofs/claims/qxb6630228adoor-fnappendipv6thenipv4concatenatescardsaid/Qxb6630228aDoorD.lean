import Derived.Test.Qxb6630228aDoorC
namespace Go.Proofs.Qxb6630228aDoor
open Go.ChangeShapes Go.WideShapes Go.ChangeAt Go.RowKit
set_option linter.unusedVariables false

/-- The row that is owned, written out: where it holds an element it is not nil. -/
theorem ownsRow_shape {w : World} {base : Nat} {v : Value} {n : Nat} {xs : List Value} (h : w.ownsRow base 5 1 v n xs) (hn : 0 < n) :
    ∃ g cap, v = .slice (some ⟨g, 0, none⟩) n cap ∧ base ≤ g ∧ g < w.heap.size ∧ ∀ j u, xs[j]? = some u → w.cell? ⟨g, j, none⟩ = some u := by
  rcases h.2 with ⟨_, h0⟩ | ⟨g, cap, cur, rfl, hb, _⟩
  · omega
  · refine ⟨g, cap, rfl, hb, (h.lt g rfl).2, fun j u hj => ?_⟩
    have := h.cells (g := g) rfl j u hj
    rw [Addr.add_lit, Nat.zero_add] at this
    exact this

theorem at_tail (zs five : List Int) (len k : Nat) (hz : zs.length = len) (hk : k < five.length) : (zs.map (Value.int .u8) ++ five.map (Value.int .u8))[len + k]? = some (.int .u8 (five.getD k 0)) := by
  rw [List.getElem?_append_right (by simp; omega)]
  simp [hz, List.getD, hk]

theorem at_head (zs five : List Int) (len k : Nat) (hz : zs.length = len) (hk : k < len) : (zs.map (Value.int .u8) ++ five.map (Value.int .u8))[k]? = some (.int .u8 (zs.getD k 0)) := by
  rw [List.getElem?_append_left (by simp; omega)]
  simp [List.getD, hz, hk]

theorem at_one (zs : List Int) (k : Nat) (hk : k < zs.length) : (zs.map (Value.int .u8))[k]? = some (.int .u8 (zs.getD k 0)) := by
  simp [List.getD, hk]

theorem box4 {w w' : World} {a0 a1 a2 a3 : Int} (h : Below (w.heap.size + 1) (w.alloc (.cells #[.int .u8 a0, .int .u8 a1, .int .u8 a2, .int .u8 a3] 23)) w') :
    w'.cell? ⟨w.heap.size, 0, none⟩ = some (.int .u8 a0) ∧ w'.cell? ⟨w.heap.size, 1, none⟩ = some (.int .u8 a1) ∧ w'.cell? ⟨w.heap.size, 2, none⟩ = some (.int .u8 a2) ∧ w'.cell? ⟨w.heap.size, 3, none⟩ = some (.int .u8 a3) := by
  have hc : ∀ k, w'.cell? ⟨w.heap.size, k, none⟩ = (w.alloc (.cells #[.int .u8 a0, .int .u8 a1, .int .u8 a2, .int .u8 a3] 23)).cell? ⟨w.heap.size, k, none⟩ := fun k => h.cell (p := ⟨w.heap.size, k, none⟩) (Nat.lt_succ_self _)
  refine ⟨?_, ?_, ?_, ?_⟩ <;> (rw [hc]; simp)

theorem box4_at {w' : World} {g : Nat} {a0 a1 a2 a3 : Int} (h : w'.cell? ⟨g, 0, none⟩ = some (.int .u8 a0) ∧ w'.cell? ⟨g, 1, none⟩ = some (.int .u8 a1) ∧ w'.cell? ⟨g, 2, none⟩ = some (.int .u8 a2) ∧ w'.cell? ⟨g, 3, none⟩ = some (.int .u8 a3)) :
    ∀ k, k < 4 → w'.cell? ⟨g, k, none⟩ = some (.int .u8 ([a0, a1, a2, a3].getD k 0)) := by
  obtain ⟨h0, h1, h2, h3⟩ := h
  intro k hk
  match k, hk with
  | 0, _ => exact h0
  | 1, _ => exact h1
  | 2, _ => exact h2
  | 3, _ => exact h3

theorem Full.nil {w : World} {ao : Option Addr} {len : Nat} {zs : List Int} (h : Full w ao len zs) : ao = none → len = 0 ∧ len = 0 := by
  obtain ⟨h1, h2⟩ := h
  rcases h2 with h2 | ⟨g, rfl, hlt, h3⟩
  · exact fun _ => ⟨h2.2, h2.2⟩
  · intro h; cases h

theorem Full.cell {w : World} {ao : Option Addr} {len : Nat} {zs : List Int} (h : Full w ao len zs) : ∀ x, ao = some x → ∀ j, j < len → w.cell? (x.add j) = some (.int .u8 (zs.getD j 0)) := by
  obtain ⟨h1, h2⟩ := h
  rcases h2 with ⟨rfl, h2⟩ | ⟨g, rfl, hlt, h3⟩
  · intro x h; cases h
  · intro x h j hj
    cases h
    rw [Addr.add_lit, Nat.zero_add]
    exact h3 j hj

theorem src_nil (w : World) : Src w w.heap.size (.slice none 0 0) 0 [] none :=
  ⟨rfl, Nat.le_refl _, .inr ⟨none, rfl, fun _ => rfl, fun _ h => (by cases h), rfl⟩⟩

theorem ne_self_u8 (x : Int) : (x != x) = false := by simp

set_option maxHeartbeats 2000000 in
theorem walk4 (ao : Option Addr) (len cap : Nat) (zs : List Int) (a0 a1 a2 a3 : Int) (z : Addr) (w : World) (hm : len ≤ maxLen) (hsz : 3 ≤ w.heap.size) (hz : zs.length = len) (hnil : ao = none → len = 0 ∧ cap = 0) (hcell : ∀ x, ao = some x → ∀ j, j < len → w.cell? (x.add j) = some (.int .u8 (zs.getD j 0)))
    (hgl : w.cell? ⟨0, 0, none⟩ = some (.pointer (some z)))
    (b0 : 0 ≤ a0 ∧ a0 ≤ 255) (b1 : 0 ≤ a1 ∧ a1 ≤ 255) (b2 : 0 ≤ a2 ∧ a2 ≤ 255) (b3 : 0 ≤ a3 ∧ a3 ≤ 255) :
    Calls Tryd.prog 3 #[.slice ao len cap, .agg #[.int .u8 a0, .int .u8 a1, .int .u8 a2, .int .u8 a3]] w fun e w' => e = .returned (.bool true) ∧ Below w.heap.size w w' := by
  unfold maxLen at hm
  by_cases hle : len ≤ 1048576
  · have HC : Hid (∀ x, ao = some x → ∀ j, j < len → w.cell? (x.add j) = some (.int .u8 (zs.getD j 0))) := hcell
    have HN : Hid (ao = none → len = 0 ∧ cap = 0) := hnil
    have HZ : Hid (zs.length = len) := hz
    have HG : Hid (w.cell? ⟨0, 0, none⟩ = some (.pointer (some z))) := hgl
    have hd : decide (len ≤ 1048576) = true := by simpa using hle
    clear hcell hnil hz hgl
    go_enter Tryd.func3, Tryd.ntmps3
    go_wp2_with fail
    refine (bytes4_any ao len cap a0 a1 a2 a3 _ (by omega)).mono ?_
    rintro e w1 ⟨rfl, hb1⟩
    have hbx : Below w.heap.size w (w.alloc (.cells #[.int .u8 a0, .int .u8 a1, .int .u8 a2, .int .u8 a3] 23)) := (Below.refl _ _).alloc (Nat.le_refl _) _
    have hs1 : w.heap.size + 1 ≤ w1.heap.size := by have := hb1.size; simp at this; omega
    have HB1 : Hid (Below (w.heap.size + 1) (w.alloc (.cells #[.int .u8 a0, .int .u8 a1, .int .u8 a2, .int .u8 a3] 23)) w1) := by have := hb1; simp only [World.size_alloc] at this; exact this
    have HBX : Hid (Below w.heap.size w (w.alloc (.cells #[.int .u8 a0, .int .u8 a1, .int .u8 a2, .int .u8 a3] 23))) := hbx
    clear hb1 hbx
    rw [hd]
    go_wp2_with fail
    have hw1 : Below w.heap.size w w1 := HBX.out.trans (HB1.out.mono (by omega))
    refine (clone_full ao len cap zs w1 hle HZ.out HN.out (fun x e j hj => cell_later hw1 (HC.out x e j hj))).mono ?_
    rintro e w2 ⟨ap, rfl, hfull, hb2⟩
    have HF1 : Hid (Full w2 ap len zs) := hfull
    have HB2 : Hid (Below w1.heap.size w1 w2) := hb2
    clear hfull hb2 hw1
    have hs2 : w1.heap.size ≤ w2.heap.size := HB2.out.size
    go_wp2_with fail
    refine (clone_full ap len len zs w2 hle HZ.out HF1.out.nil HF1.out.cell).mono ?_
    rintro e w3 ⟨aq, rfl, hfull, hb3⟩
    have HF2 : Hid (Full w3 aq len zs) := hfull
    have HB3 : Hid (Below w2.heap.size w2 w3) := hb3
    clear hfull hb3
    have hs3 : w2.heap.size ≤ w3.heap.size := HB3.out.size
    have HX3 : Hid (Below (w.heap.size + 1) (w.alloc (.cells #[.int .u8 a0, .int .u8 a1, .int .u8 a2, .int .u8 a3] 23)) w3) := (HB1.out.trans (HB2.out.mono (by omega))).trans (HB3.out.mono (by omega))
    have HW3 : Hid (Below w.heap.size w w3) := HBX.out.trans (HX3.out.mono (by omega))
    obtain ⟨hx0, hx1, hx2, hx3⟩ := box4 HX3.out
    clear HX3 HBX HC HN
    go_wp2_with fail
    refine (append4_any w3.heap.size (.slice none 0 0) 0 [] none a0 a1 a2 a3 z (by omega) w3 (src_nil w3) (by omega) (cell_later HW3.out HG.out) b0 b1 b2 b3).mono ?_
    rintro e w4 ⟨v1, rfl, hown1, hb4⟩
    obtain ⟨g1, cap1, rfl, hg1, hg1', hc1⟩ := ownsRow_shape hown1 (by omega)
    have HC1 : Hid (∀ j u, ([132, a0, a1, a2, a3].map (Value.int .u8))[j]? = some u → w4.cell? ⟨g1, j, none⟩ = some u) := hc1
    have HB4 : Hid (Below w3.heap.size w3 w4) := hb4
    clear hown1 hc1 hb4
    have hs4 : w3.heap.size ≤ w4.heap.size := HB4.out.size
    have hy0 : w4.cell? ⟨w.heap.size, 0, none⟩ = some (.int .u8 a0) := cell_later HB4.out hx0
    have hy1 : w4.cell? ⟨w.heap.size, 1, none⟩ = some (.int .u8 a1) := cell_later HB4.out hx1
    have hy2 : w4.cell? ⟨w.heap.size, 2, none⟩ = some (.int .u8 a2) := cell_later HB4.out hx2
    have hy3 : w4.cell? ⟨w.heap.size, 3, none⟩ = some (.int .u8 a3) := cell_later HB4.out hx3
    clear hx0 hx1 hx2 hx3
    go_wp2_with fail
    have hF : Full w4 ap len zs := (HF1.out.later HB3.out).later HB4.out
    refine (append4_any w4.heap.size (.slice ap len len) len (zs.map (Value.int .u8)) none a0 a1 a2 a3 z (by omega) w4 (hF.src (Nat.le_refl _)) (by omega) (cell_later HB4.out (cell_later HW3.out HG.out)) b0 b1 b2 b3).mono ?_
    rintro e w5 ⟨v2, rfl, hown2, hb5⟩
    obtain ⟨g2, cap2, rfl, hg2, hg2', hc2⟩ := ownsRow_shape hown2 (by omega)
    have HC2 : Hid (∀ j u, (zs.map (Value.int .u8) ++ [132, a0, a1, a2, a3].map (Value.int .u8))[j]? = some u → w5.cell? ⟨g2, j, none⟩ = some u) := hc2
    have HB5 : Hid (Below w4.heap.size w4 w5) := hb5
    have HA : Hid (∀ k, k < 4 → w5.cell? ⟨w.heap.size, k, none⟩ = some (.int .u8 ([a0, a1, a2, a3].getD k 0))) := box4_at ⟨cell_later hb5 hy0, cell_later hb5 hy1, cell_later hb5 hy2, cell_later hb5 hy3⟩
    have HL : Hid (∀ j, j < 5 → w5.cell? ⟨g1, j, none⟩ = some (.int .u8 ([132, a0, a1, a2, a3].getD j 0))) := fun j hj => cell_later hb5 (HC1.out j _ (at_one _ j (by simpa using hj)))
    have HP : Hid (Full w5 aq len zs) := (HF2.out.later HB4.out).later hb5
    have HW5 : Hid (Below w.heap.size w w5) := (HW3.out.trans (HB4.out.mono (by omega))).trans (hb5.mono (by omega))
    clear hown2 hc2 hb5 hF hy0 hy1 hy2 hy3 HC1 HF1 HF2 HB1 HB2 HB3 HB4 HB5 HG HW3
    have hl0 : w5.cell? ⟨g1, 0, none⟩ = some (.int .u8 132) := HL.out 0 (by omega)
    go_wp2
    clear hl0
    go_loopw [8] (fun i wr => ∃ k : Nat, k ≤ 4 ∧ i = .int .i64 k ∧ ∃ n, wr = w5.drewN n) (fun i _ => 4 - (intOf i).toNat)
    case atStart => exact ⟨0, by omega, rfl, 0, rfl⟩
    case round =>
      obtain ⟨k, hk, rfl, nd, rfl⟩ := hrel
      by_cases hlt : k < 4
      · obtain ⟨x, q1, q2⟩ : ∃ x, w5.cell? ⟨g1, 1 + k, none⟩ = some (.int .u8 x) ∧ w5.cell? ⟨w.heap.size, k, none⟩ = some (.int .u8 x) := by
          refine ⟨_, ?_, HA.out k hlt⟩
          rw [HL.out (1 + k) (by omega), Nat.add_comm 1 k]; rfl
        go_wp2
        go_quiet (fail)
        go_wp2
        go_roundw
        case rel => exact ⟨k + 1, by omega, by go_num, _, rfl⟩
        case measure => simp [intOf]; omega
      · go_wp2
        go_loopw [9] (fun i wr => ∃ k : Nat, k ≤ len ∧ i = .int .i64 k ∧ ∃ n, wr = w5.drewN n) (fun i _ => len - (intOf i).toNat)
        case atStart => exact ⟨0, by omega, rfl, _, rfl⟩
        case round =>
          obtain ⟨k2, hk2, rfl, nd2, rfl⟩ := hrel
          by_cases hlt2 : k2 < len
          · obtain ⟨x, q1⟩ : ∃ x, w5.cell? ⟨g2, k2, none⟩ = some (.int .u8 x) ∧ ∃ gp, aq = some ⟨gp, 0, none⟩ ∧ w5.cell? ⟨gp, k2, none⟩ = some (.int .u8 x) := by
              refine ⟨_, HC2.out k2 _ (at_head zs _ len k2 HZ.out hlt2), ?_⟩
              rcases HP.out.2 with ⟨_, h0⟩ | ⟨gp, e, _, h3⟩
              · omega
              · exact ⟨gp, e, h3 k2 hlt2⟩
            obtain ⟨q1, gp, rfl, q2⟩ := q1
            go_wp2
            go_quiet (fail)
            go_wp2
            go_roundw
            case rel => exact ⟨k2 + 1, by omega, by go_num, _, rfl⟩
            case measure => simp [intOf]; omega
          · go_wp2
            go_loopw [10] (fun i wr => ∃ k : Nat, k ≤ 5 ∧ i = .int .i64 k ∧ ∃ n, wr = w5.drewN n) (fun i _ => 5 - (intOf i).toNat)
            case atStart => exact ⟨0, by omega, rfl, _, rfl⟩
            case round =>
              obtain ⟨k3, hk3, rfl, nd3, rfl⟩ := hrel
              by_cases hlt3 : k3 < 5
              · obtain ⟨x, q1, q2⟩ : ∃ x, w5.cell? ⟨g2, len + k3, none⟩ = some (.int .u8 x) ∧ w5.cell? ⟨g1, k3, none⟩ = some (.int .u8 x) :=
                  ⟨_, HC2.out (len + k3) _ (at_tail zs _ len k3 HZ.out (by simpa using hlt3)), HL.out k3 hlt3⟩
                go_wp2
                go_quiet (fail)
                go_wp2
                go_roundw
                case rel => exact ⟨k3 + 1, by omega, by go_num, _, rfl⟩
                case measure => simp [intOf]; omega
              · go_wp2
                go_ret
                exact ⟨rfl, HW5.out.trans ⟨rfl, rfl, rfl, Nat.le_refl _, fun _ _ => rfl⟩⟩
  · have hd : decide (len ≤ 1048576) = false := by simpa using hle
    clear hcell hnil hz hgl
    go_enter Tryd.func3, Tryd.ntmps3
    go_wp2_with fail
    refine (bytes4_any ao len cap a0 a1 a2 a3 _ (by omega)).mono ?_
    rintro e w1 ⟨rfl, hb1⟩
    have HB : Hid (Below w.heap.size w w1) := ((Below.refl _ _).alloc (Nat.le_refl _) _).trans (hb1.mono (by simp))
    clear hb1
    rw [hd]
    go_wp2
    go_ret
    exact ⟨rfl, HB.out⟩
end Go.Proofs.Qxb6630228aDoor
