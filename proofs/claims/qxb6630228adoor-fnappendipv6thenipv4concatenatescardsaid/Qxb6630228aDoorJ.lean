import Derived.Test.Qxb6630228aDoorI
namespace Go.Proofs.Qxb6630228aDoor
open Go.ChangeShapes Go.WideShapes Go.ChangeAt Go.RowKit
set_option linter.unusedVariables false

set_option maxHeartbeats 8000000 in
theorem walk6 (ao : Option Addr) (len cap : Nat) (zs : List Int) (x0 x1 x2 x3 x4 x5 x6 x7 x8 x9 x10 x11 x12 x13 x14 x15 c0 c1 c2 c3 : Int) (z z6 : Addr) (w : World) (hm : len ≤ maxLen) (hsz : 3 ≤ w.heap.size) (hz : zs.length = len) (hnil : ao = none → len = 0 ∧ cap = 0) (hcell : ∀ x, ao = some x → ∀ j, j < len → w.cell? (x.add j) = some (.int .u8 (zs.getD j 0)))
    (hgl : w.cell? ⟨0, 0, none⟩ = some (.pointer (some z))) (hgl6 : w.cell? ⟨1, 0, none⟩ = some (.pointer (some z6)))
    {ca cb : Array Value} {ta tb : TypeId} (hne : z6 ≠ z) (ha : w.heap[z6.block]? = some (.cells ca ta (0, 0))) (hb : w.heap[z.block]? = some (.cells cb tb (0, 0)))
    (b0 : 0 ≤ x0 ∧ x0 ≤ 255) (b1 : 0 ≤ x1 ∧ x1 ≤ 255) (b2 : 0 ≤ x2 ∧ x2 ≤ 255) (b3 : 0 ≤ x3 ∧ x3 ≤ 255) (b4 : 0 ≤ x4 ∧ x4 ≤ 255) (b5 : 0 ≤ x5 ∧ x5 ≤ 255) (b6 : 0 ≤ x6 ∧ x6 ≤ 255) (b7 : 0 ≤ x7 ∧ x7 ≤ 255) (b8 : 0 ≤ x8 ∧ x8 ≤ 255) (b9 : 0 ≤ x9 ∧ x9 ≤ 255) (b10 : 0 ≤ x10 ∧ x10 ≤ 255) (b11 : 0 ≤ x11 ∧ x11 ≤ 255) (b12 : 0 ≤ x12 ∧ x12 ≤ 255) (b13 : 0 ≤ x13 ∧ x13 ≤ 255) (b14 : 0 ≤ x14 ∧ x14 ≤ 255) (b15 : 0 ≤ x15 ∧ x15 ≤ 255) (d0 : 0 ≤ c0 ∧ c0 ≤ 255) (d1 : 0 ≤ c1 ∧ c1 ≤ 255) (d2 : 0 ≤ c2 ∧ c2 ≤ 255) (d3 : 0 ≤ c3 ∧ c3 ≤ 255) :
    Calls Tryd.prog 4 #[.slice ao len cap, .agg #[.int .u8 x0, .int .u8 x1, .int .u8 x2, .int .u8 x3, .int .u8 x4, .int .u8 x5, .int .u8 x6, .int .u8 x7, .int .u8 x8, .int .u8 x9, .int .u8 x10, .int .u8 x11, .int .u8 x12, .int .u8 x13, .int .u8 x14, .int .u8 x15], .agg #[.int .u8 c0, .int .u8 c1, .int .u8 c2, .int .u8 c3]] w fun e w' => e = .returned (.bool true) ∧ Below w.heap.size w w' := by
  unfold maxLen at hm
  by_cases hle : len ≤ 1048576
  · have HC : Hid (∀ x, ao = some x → ∀ j, j < len → w.cell? (x.add j) = some (.int .u8 (zs.getD j 0))) := hcell
    have HN : Hid (ao = none → len = 0 ∧ cap = 0) := hnil
    have HZ : Hid (zs.length = len) := hz
    have HG : Hid (w.cell? ⟨0, 0, none⟩ = some (.pointer (some z))) := hgl
    have HG6 : Hid (w.cell? ⟨1, 0, none⟩ = some (.pointer (some z6))) := hgl6
    have hlta : z6.block < w.heap.size := (Array.getElem?_eq_some_iff.1 ha).1
    have hltb : z.block < w.heap.size := (Array.getElem?_eq_some_iff.1 hb).1
    have HA : Hid (w.heap[z6.block]? = some (.cells ca ta (0, 0))) := ha
    have HB : Hid (w.heap[z.block]? = some (.cells cb tb (0, 0))) := hb
    have HNE : Hid (z6 ≠ z) := hne
    have hd : decide (len ≤ 1048576) = true := by simpa using hle
    clear hcell hnil hz hgl hgl6 ha hb hne
    go_enter Tryd.func4, Tryd.ntmps4
    go_wp2_with fail
    refine (bytes6_any ao len cap x0 x1 x2 x3 x4 x5 x6 x7 x8 x9 x10 x11 x12 x13 x14 x15 c0 c1 c2 c3 _ (by omega)).mono ?_
    rintro e w1 ⟨rfl, hb1⟩
    have HBX : Hid (Below w.heap.size w ((w.alloc (.cells #[.int .u8 x0, .int .u8 x1, .int .u8 x2, .int .u8 x3, .int .u8 x4, .int .u8 x5, .int .u8 x6, .int .u8 x7, .int .u8 x8, .int .u8 x9, .int .u8 x10, .int .u8 x11, .int .u8 x12, .int .u8 x13, .int .u8 x14, .int .u8 x15] 27)).alloc (.cells #[.int .u8 c0, .int .u8 c1, .int .u8 c2, .int .u8 c3] 23))) := ((Below.refl _ _).alloc (Nat.le_refl _) _).alloc (by simp) _
    have hs1 : w.heap.size + 2 ≤ w1.heap.size := by have := hb1.size; simp at this; omega
    have HB1 : Hid (Below (w.heap.size + 2) ((w.alloc (.cells #[.int .u8 x0, .int .u8 x1, .int .u8 x2, .int .u8 x3, .int .u8 x4, .int .u8 x5, .int .u8 x6, .int .u8 x7, .int .u8 x8, .int .u8 x9, .int .u8 x10, .int .u8 x11, .int .u8 x12, .int .u8 x13, .int .u8 x14, .int .u8 x15] 27)).alloc (.cells #[.int .u8 c0, .int .u8 c1, .int .u8 c2, .int .u8 c3] 23)) w1) := by have := hb1; simp only [World.size_alloc] at this; exact this
    clear hb1
    rw [hd]
    go_wp2_with fail
    have hw1 : Below w.heap.size w w1 := HBX.out.trans (HB1.out.mono (by omega))
    refine (clone_full ao len cap zs w1 hle HZ.out HN.out (fun x e j hj => cell_later hw1 (HC.out x e j hj))).mono ?_
    rintro e w2 ⟨ap, rfl, hfull, hb2⟩
    have HF1 : Hid (Full w2 ap len zs) := hfull
    have HB2 : Hid (Below w1.heap.size w1 w2) := hb2
    clear hfull hb2 hw1
    have hs2 : w1.heap.size ≤ w2.heap.size := HB2.out.size
    go_wp2_with fail
    refine (clone_full ap len len zs w2 hle HZ.out HF1.out.nil HF1.out.cell).mono ?_
    rintro e w3 ⟨aq, rfl, hfull, hb3⟩
    have HF2 : Hid (Full w3 aq len zs) := hfull
    have HB3 : Hid (Below w2.heap.size w2 w3) := hb3
    clear hfull hb3
    have hs3 : w2.heap.size ≤ w3.heap.size := HB3.out.size
    have HX3 : Hid (Below (w.heap.size + 2) ((w.alloc (.cells #[.int .u8 x0, .int .u8 x1, .int .u8 x2, .int .u8 x3, .int .u8 x4, .int .u8 x5, .int .u8 x6, .int .u8 x7, .int .u8 x8, .int .u8 x9, .int .u8 x10, .int .u8 x11, .int .u8 x12, .int .u8 x13, .int .u8 x14, .int .u8 x15] 27)).alloc (.cells #[.int .u8 c0, .int .u8 c1, .int .u8 c2, .int .u8 c3] 23)) w3) := (HB1.out.trans (HB2.out.mono (by omega))).trans (HB3.out.mono (by omega))
    have HW3 : Hid (Below w.heap.size w w3) := HBX.out.trans (HX3.out.mono (by omega))
    have HXA : Hid (∀ k, k < 16 → w3.cell? ⟨w.heap.size, k, none⟩ = some (.int .u8 ([x0, x1, x2, x3, x4, x5, x6, x7, x8, x9, x10, x11, x12, x13, x14, x15].getD k 0))) := boxA HX3.out
    have HXC : Hid (∀ k, k < 4 → w3.cell? ⟨w.heap.size + 1, k, none⟩ = some (.int .u8 ([c0, c1, c2, c3].getD k 0))) := boxC HX3.out
    clear HX3 HBX HC HN HB1 HB2
    have hx0 : w3.cell? ⟨w.heap.size, 0, none⟩ = some (.int .u8 x0) := HXA.out 0 (by omega)
    have hx1 : w3.cell? ⟨w.heap.size, 1, none⟩ = some (.int .u8 x1) := HXA.out 1 (by omega)
    have hx2 : w3.cell? ⟨w.heap.size, 2, none⟩ = some (.int .u8 x2) := HXA.out 2 (by omega)
    have hx3 : w3.cell? ⟨w.heap.size, 3, none⟩ = some (.int .u8 x3) := HXA.out 3 (by omega)
    have hx4 : w3.cell? ⟨w.heap.size, 4, none⟩ = some (.int .u8 x4) := HXA.out 4 (by omega)
    have hx5 : w3.cell? ⟨w.heap.size, 5, none⟩ = some (.int .u8 x5) := HXA.out 5 (by omega)
    have hx6 : w3.cell? ⟨w.heap.size, 6, none⟩ = some (.int .u8 x6) := HXA.out 6 (by omega)
    have hx7 : w3.cell? ⟨w.heap.size, 7, none⟩ = some (.int .u8 x7) := HXA.out 7 (by omega)
    have hx8 : w3.cell? ⟨w.heap.size, 8, none⟩ = some (.int .u8 x8) := HXA.out 8 (by omega)
    have hx9 : w3.cell? ⟨w.heap.size, 9, none⟩ = some (.int .u8 x9) := HXA.out 9 (by omega)
    have hx10 : w3.cell? ⟨w.heap.size, 10, none⟩ = some (.int .u8 x10) := HXA.out 10 (by omega)
    have hx11 : w3.cell? ⟨w.heap.size, 11, none⟩ = some (.int .u8 x11) := HXA.out 11 (by omega)
    have hx12 : w3.cell? ⟨w.heap.size, 12, none⟩ = some (.int .u8 x12) := HXA.out 12 (by omega)
    have hx13 : w3.cell? ⟨w.heap.size, 13, none⟩ = some (.int .u8 x13) := HXA.out 13 (by omega)
    have hx14 : w3.cell? ⟨w.heap.size, 14, none⟩ = some (.int .u8 x14) := HXA.out 14 (by omega)
    have hx15 : w3.cell? ⟨w.heap.size, 15, none⟩ = some (.int .u8 x15) := HXA.out 15 (by omega)
    go_wp2_with fail
    clear hx0 hx1 hx2 hx3 hx4 hx5 hx6 hx7 hx8 hx9 hx10 hx11 hx12 hx13 hx14 hx15
    have hF : Full w3 ap len zs := HF1.out.later HB3.out
    refine (append16_any w3.heap.size (.slice ap len len) len (zs.map (Value.int .u8)) none x0 x1 x2 x3 x4 x5 x6 x7 x8 x9 x10 x11 x12 x13 x14 x15 z z6 (by omega) w3 (hF.src (Nat.le_refl _)) (by omega) (cell_later HW3.out HG.out) (cell_later HW3.out HG6.out) (ca := ca) (cb := cb) (ta := ta) (tb := tb) HNE.out ?_ ?_ b0 b1 b2 b3 b4 b5 b6 b7 b8 b9 b10 b11 b12 b13 b14 b15).mono ?_
    · rw [HW3.out.block _ hlta]; exact HA.out
    · rw [HW3.out.block _ hltb]; exact HB.out
    rintro e w4 ⟨v1, rfl, hown1, hb4⟩
    obtain ⟨g1, cap1, rfl, hg1, hg1', hc1⟩ := ownsRow_shape hown1 (by omega)
    have HC1 : Hid (∀ j u, (zs.map (Value.int .u8) ++ ([144, x0, x1, x2, x3, x4, x5, x6, x7, x8, x9, x10, x11, x12, x13, x14, x15] : List Int).map (Value.int .u8))[j]? = some u → w4.cell? ⟨g1, j, none⟩ = some u) := hc1
    have HO1 : Hid (w4.ownsRow w3.heap.size 5 1 (.slice (some ⟨g1, 0, none⟩) (len + 17) cap1) (len + 17) (zs.map (Value.int .u8) ++ ([144, x0, x1, x2, x3, x4, x5, x6, x7, x8, x9, x10, x11, x12, x13, x14, x15] : List Int).map (Value.int .u8))) := hown1
    have HB4 : Hid (Below w3.heap.size w3 w4) := hb4
    clear hown1 hc1 hb4 hF HF1 HA HB HNE HG6 HB3 b0 b1 b2 b3 b4 b5 b6 b7 b8 b9 b10 b11 b12 b13 b14 b15
    have hs4 : w3.heap.size ≤ w4.heap.size := HB4.out.size
    have HYA : Hid (∀ k, k < 16 → w4.cell? ⟨w.heap.size, k, none⟩ = some (.int .u8 ([x0, x1, x2, x3, x4, x5, x6, x7, x8, x9, x10, x11, x12, x13, x14, x15].getD k 0))) := fun k hk => cell_later HB4.out (HXA.out k hk)
    have HYC : Hid (∀ k, k < 4 → w4.cell? ⟨w.heap.size + 1, k, none⟩ = some (.int .u8 ([c0, c1, c2, c3].getD k 0))) := fun k hk => cell_later HB4.out (HXC.out k hk)
    have HP : Hid (Full w4 aq len zs) := HF2.out.later HB4.out
    have HW4 : Hid (Below w.heap.size w w4) := HW3.out.trans (HB4.out.mono (by omega))
    have HG4 : Hid (w4.cell? ⟨0, 0, none⟩ = some (.pointer (some z))) := cell_later HW4.out HG.out
    clear HW3 HG
    go_wp2
    go_loopw [10] (fun i wr => ∃ k : Nat, k ≤ len ∧ i = .int .i64 k ∧ ∃ n, wr = w4.drewN n) (fun i _ => len - (intOf i).toNat)
    case atStart => exact ⟨0, by omega, rfl, 0, rfl⟩
    case round =>
      obtain ⟨k, hk, rfl, nd, rfl⟩ := hrel
      by_cases hlt : k < len
      · obtain ⟨x, q1⟩ : ∃ x, w4.cell? ⟨g1, k, none⟩ = some (.int .u8 x) ∧ ∃ gp, aq = some ⟨gp, 0, none⟩ ∧ w4.cell? ⟨gp, k, none⟩ = some (.int .u8 x) := by
          refine ⟨_, HC1.out k _ (at_head zs _ len k HZ.out hlt), ?_⟩
          rcases HP.out.2 with ⟨_, h0⟩ | ⟨gp, e, _, h3⟩
          · omega
          · exact ⟨gp, e, h3 k hlt⟩
        obtain ⟨q1, gp, rfl, q2⟩ := q1
        go_wp2
        go_quiet (fail)
        go_wp2
        go_roundw
        case rel => exact ⟨k + 1, by omega, by go_num, _, rfl⟩
        case measure => simp [intOf]; omega
      · have q0 : w4.cell? ⟨g1, len, none⟩ = some (.int .u8 144) := HC1.out (len + 0) _ (at_tail zs _ len 0 HZ.out (by simp))
        go_wp2
        clear q0
        go_loopw [11] (fun i wr => ∃ k : Nat, k ≤ 16 ∧ i = .int .i64 k ∧ ∃ n, wr = w4.drewN n) (fun i _ => 16 - (intOf i).toNat)
        case atStart => exact ⟨0, by omega, rfl, _, rfl⟩
        case round =>
          obtain ⟨k2, hk2, rfl, nd2, rfl⟩ := hrel
          by_cases hlt2 : k2 < 16
          · obtain ⟨x, q1, q2⟩ : ∃ x, w4.cell? ⟨g1, len + 1 + k2, none⟩ = some (.int .u8 x) ∧ w4.cell? ⟨w.heap.size, k2, none⟩ = some (.int .u8 x) := by
              refine ⟨_, ?_, HYA.out k2 hlt2⟩
              rw [← mid_at x0 x1 x2 x3 x4 x5 x6 x7 x8 x9 x10 x11 x12 x13 x14 x15 [] k2 hlt2, Nat.add_assoc]
              exact HC1.out (len + (1 + k2)) _ (at_tail zs _ len (1 + k2) HZ.out (by simp; omega))
            go_wp2
            go_quiet (fail)
            go_wp2
            go_roundw
            case rel => exact ⟨k2 + 1, by omega, by go_num, _, rfl⟩
            case measure => simp [intOf]; omega
          · have hy0 : w4.cell? ⟨w.heap.size + 1, 0, none⟩ = some (.int .u8 c0) := HYC.out 0 (by omega)
            have hy1 : w4.cell? ⟨w.heap.size + 1, 1, none⟩ = some (.int .u8 c1) := HYC.out 1 (by omega)
            have hy2 : w4.cell? ⟨w.heap.size + 1, 2, none⟩ = some (.int .u8 c2) := HYC.out 2 (by omega)
            have hy3 : w4.cell? ⟨w.heap.size + 1, 3, none⟩ = some (.int .u8 c3) := HYC.out 3 (by omega)
            go_wp2_with fail
            have hsrc : Src (w4.drewN nd2) w3.heap.size (.slice (some ⟨g1, 0, none⟩) (len + 17) cap1) (len + 17) (zs.map (Value.int .u8) ++ ([144, x0, x1, x2, x3, x4, x5, x6, x7, x8, x9, x10, x11, x12, x13, x14, x15] : List Int).map (Value.int .u8)) (some g1) :=
              ⟨by simp [HZ.out], hs4, .inl ⟨HO1.out, rfl⟩⟩
            refine (append4_any w3.heap.size (.slice (some ⟨g1, 0, none⟩) (len + 17) cap1) (len + 17) (zs.map (Value.int .u8) ++ ([144, x0, x1, x2, x3, x4, x5, x6, x7, x8, x9, x10, x11, x12, x13, x14, x15] : List Int).map (Value.int .u8)) (some g1) c0 c1 c2 c3 z (by omega) (w4.drewN nd2) hsrc (by omega) HG4.out d0 d1 d2 d3).mono ?_
            rintro e w5 ⟨v2, rfl, hown2, hb5⟩
            obtain ⟨g2, cap2, rfl, hg2, hg2', hc2⟩ := ownsRow_shape hown2 (by omega)
            have HC2 : Hid (∀ j u, (zs.map (Value.int .u8) ++ ([144, x0, x1, x2, x3, x4, x5, x6, x7, x8, x9, x10, x11, x12, x13, x14, x15, 132, c0, c1, c2, c3] : List Int).map (Value.int .u8))[j]? = some u → w5.cell? ⟨g2, j, none⟩ = some u) := by
              intro j u hj; exact hc2 j u (by rw [List.append_assoc]; exact hj)
            have hb35 : Below w3.heap.size w3 w5 := (bdrewN HB4.out).trans hb5
            have HZA : Hid (∀ k, k < 16 → w5.cell? ⟨w.heap.size, k, none⟩ = some (.int .u8 ([x0, x1, x2, x3, x4, x5, x6, x7, x8, x9, x10, x11, x12, x13, x14, x15].getD k 0))) := fun k hk => cell_later hb35 (HXA.out k hk)
            have HZC : Hid (∀ k, k < 4 → w5.cell? ⟨w.heap.size + 1, k, none⟩ = some (.int .u8 ([c0, c1, c2, c3].getD k 0))) := fun k hk => cell_later hb35 (HXC.out k hk)
            have HQ : Hid (Full w5 aq len zs) := HF2.out.later hb35
            have HW5 : Hid (Below w.heap.size w w5) := (bdrewN HW4.out).trans (hb5.mono (by omega))
            clear hy0 hy1 hy2 hy3 hsrc hown2 hc2 hb5 hb35 HXA HXC HF2 HYA HYC HP HW4 HG4 HO1 HC1 HB4 d0 d1 d2 d3
            go_wp2
            go_loopw [13] (fun i wr => ∃ k : Nat, k ≤ len ∧ i = .int .i64 k ∧ ∃ n, wr = w5.drewN n) (fun i _ => len - (intOf i).toNat)
            case atStart => exact ⟨0, by omega, rfl, 0, rfl⟩
            case round =>
              obtain ⟨k3, hk3, rfl, nd3, rfl⟩ := hrel
              by_cases hlt3 : k3 < len
              · obtain ⟨x, q1⟩ : ∃ x, w5.cell? ⟨g2, k3, none⟩ = some (.int .u8 x) ∧ ∃ gp, aq = some ⟨gp, 0, none⟩ ∧ w5.cell? ⟨gp, k3, none⟩ = some (.int .u8 x) := by
                  refine ⟨_, HC2.out k3 _ (at_head zs _ len k3 HZ.out hlt3), ?_⟩
                  rcases HQ.out.2 with ⟨_, h0⟩ | ⟨gp, e, _, h3⟩
                  · omega
                  · exact ⟨gp, e, h3 k3 hlt3⟩
                obtain ⟨q1, gp, rfl, q2⟩ := q1
                go_wp2
                go_quiet (fail)
                go_wp2
                go_roundw
                case rel => exact ⟨k3 + 1, by omega, by go_num, _, rfl⟩
                case measure => simp [intOf]; omega
              · have q0 : w5.cell? ⟨g2, len, none⟩ = some (.int .u8 144) := HC2.out (len + 0) _ (at_tail zs _ len 0 HZ.out (by simp))
                go_wp2
                clear q0
                go_loopw [14] (fun i wr => ∃ k : Nat, k ≤ 16 ∧ i = .int .i64 k ∧ ∃ n, wr = w5.drewN n) (fun i _ => 16 - (intOf i).toNat)
                case atStart => exact ⟨0, by omega, rfl, _, rfl⟩
                case round =>
                  obtain ⟨k4, hk4, rfl, nd4, rfl⟩ := hrel
                  by_cases hlt4 : k4 < 16
                  · obtain ⟨x, q1, q2⟩ : ∃ x, w5.cell? ⟨g2, len + 1 + k4, none⟩ = some (.int .u8 x) ∧ w5.cell? ⟨w.heap.size, k4, none⟩ = some (.int .u8 x) := by
                      refine ⟨_, ?_, HZA.out k4 hlt4⟩
                      rw [← mid_at x0 x1 x2 x3 x4 x5 x6 x7 x8 x9 x10 x11 x12 x13 x14 x15 [132, c0, c1, c2, c3] k4 hlt4, Nat.add_assoc]
                      exact HC2.out (len + (1 + k4)) _ (at_tail zs _ len (1 + k4) HZ.out (by simp; omega))
                    go_wp2
                    go_quiet (fail)
                    go_wp2
                    go_roundw
                    case rel => exact ⟨k4 + 1, by omega, by go_num, _, rfl⟩
                    case measure => simp [intOf]; omega
                  · have q0 : w5.cell? ⟨g2, len + 17, none⟩ = some (.int .u8 132) := HC2.out (len + 17) _ (at_tail zs _ len 17 HZ.out (by simp))
                    go_wp2
                    clear q0
                    go_loopw [15] (fun i wr => ∃ k : Nat, k ≤ 4 ∧ i = .int .i64 k ∧ ∃ n, wr = w5.drewN n) (fun i _ => 4 - (intOf i).toNat)
                    case atStart => exact ⟨0, by omega, rfl, _, rfl⟩
                    case round =>
                      obtain ⟨k5, hk5, rfl, nd5, rfl⟩ := hrel
                      by_cases hlt5 : k5 < 4
                      · obtain ⟨x, q1, q2⟩ : ∃ x, w5.cell? ⟨g2, len + 18 + k5, none⟩ = some (.int .u8 x) ∧ w5.cell? ⟨w.heap.size + 1, k5, none⟩ = some (.int .u8 x) := by
                          refine ⟨_, ?_, HZC.out k5 hlt5⟩
                          rw [← end_at x0 x1 x2 x3 x4 x5 x6 x7 x8 x9 x10 x11 x12 x13 x14 x15 c0 c1 c2 c3 k5 hlt5, Nat.add_assoc]
                          exact HC2.out (len + (18 + k5)) _ (at_tail zs _ len (18 + k5) HZ.out (by simp; omega))
                        go_wp2
                        go_quiet (fail)
                        go_wp2
                        go_roundw
                        case rel => exact ⟨k5 + 1, by omega, by go_num, _, rfl⟩
                        case measure => simp [intOf]; omega
                      · go_wp2
                        go_ret
                        exact ⟨rfl, bdrewN HW5.out⟩
  · have hd : decide (len ≤ 1048576) = false := by simpa using hle
    clear hcell hnil hz hgl hgl6 ha hb hne
    go_enter Tryd.func4, Tryd.ntmps4
    go_wp2_with fail
    refine (bytes6_any ao len cap x0 x1 x2 x3 x4 x5 x6 x7 x8 x9 x10 x11 x12 x13 x14 x15 c0 c1 c2 c3 _ (by omega)).mono ?_
    rintro e w1 ⟨rfl, hb1⟩
    have HB : Hid (Below w.heap.size w w1) := (((Below.refl _ _).alloc (Nat.le_refl _) _).alloc (by simp) _).trans (hb1.mono (by simp; omega))
    clear hb1
    rw [hd]
    go_wp2
    go_ret
    exact ⟨rfl, HB.out⟩
end Go.Proofs.Qxb6630228aDoor
