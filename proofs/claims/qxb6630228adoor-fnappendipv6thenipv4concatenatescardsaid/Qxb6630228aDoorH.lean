import Derived.Test.Qxb6630228aDoorG
namespace Go.Proofs.Qxb6630228aDoor
open Go.ChangeShapes Go.WideShapes Go.ChangeAt Go.RowKit
set_option linter.unusedVariables false

theorem cells16 (w : World) (x0 x1 x2 x3 x4 x5 x6 x7 x8 x9 x10 x11 x12 x13 x14 x15 : Int) (t : TypeId) : ∀ j u, ([.int .u8 x0, .int .u8 x1, .int .u8 x2, .int .u8 x3, .int .u8 x4, .int .u8 x5, .int .u8 x6, .int .u8 x7, .int .u8 x8, .int .u8 x9, .int .u8 x10, .int .u8 x11, .int .u8 x12, .int .u8 x13, .int .u8 x14, .int .u8 x15] : List Value)[j]? = some u → (w.alloc (.cells #[.int .u8 x0, .int .u8 x1, .int .u8 x2, .int .u8 x3, .int .u8 x4, .int .u8 x5, .int .u8 x6, .int .u8 x7, .int .u8 x8, .int .u8 x9, .int .u8 x10, .int .u8 x11, .int .u8 x12, .int .u8 x13, .int .u8 x14, .int .u8 x15] t)).cell? ⟨w.heap.size, j, none⟩ = some u := by
  intro j u hj
  have h : (w.alloc (.cells #[.int .u8 x0, .int .u8 x1, .int .u8 x2, .int .u8 x3, .int .u8 x4, .int .u8 x5, .int .u8 x6, .int .u8 x7, .int .u8 x8, .int .u8 x9, .int .u8 x10, .int .u8 x11, .int .u8 x12, .int .u8 x13, .int .u8 x14, .int .u8 x15] t)).cell? ⟨w.heap.size, j, none⟩ = (#[.int .u8 x0, .int .u8 x1, .int .u8 x2, .int .u8 x3, .int .u8 x4, .int .u8 x5, .int .u8 x6, .int .u8 x7, .int .u8 x8, .int .u8 x9, .int .u8 x10, .int .u8 x11, .int .u8 x12, .int .u8 x13, .int .u8 x14, .int .u8 x15] : Array Value)[j]? := by simp
  rw [h]
  simpa using hj

set_option maxHeartbeats 2000000 in
theorem ip_six (base : Nat) (v : Value) (n : Nat) (xs : List Value) (r : Option Nat) (x0 x1 x2 x3 x4 x5 x6 x7 x8 x9 x10 x11 x12 x13 x14 x15 : Int) (z z6 : Addr) (hn : n ≤ 2097152) (w : World) (hsrc : Src w base v n xs r) (hb3 : 3 ≤ base) (hz : w.cell? ⟨0, 0, none⟩ = some (.pointer (some z)))
   {ca cb : Array Value} {ta tb : TypeId} (hne : z6 ≠ z) (ha : w.heap[z6.block]? = some (.cells ca ta (0, 0))) (hb : w.heap[z.block]? = some (.cells cb tb (0, 0)))
   (b0 : 0 ≤ x0 ∧ x0 ≤ 255) (b1 : 0 ≤ x1 ∧ x1 ≤ 255) (b2 : 0 ≤ x2 ∧ x2 ≤ 255) (b3 : 0 ≤ x3 ∧ x3 ≤ 255) (b4 : 0 ≤ x4 ∧ x4 ≤ 255) (b5 : 0 ≤ x5 ∧ x5 ≤ 255) (b6 : 0 ≤ x6 ∧ x6 ≤ 255) (b7 : 0 ≤ x7 ∧ x7 ≤ 255) (b8 : 0 ≤ x8 ∧ x8 ≤ 255) (b9 : 0 ≤ x9 ∧ x9 ≤ 255) (b10 : 0 ≤ x10 ∧ x10 ≤ 255) (b11 : 0 ≤ x11 ∧ x11 ≤ 255) (b12 : 0 ≤ x12 ∧ x12 ≤ 255) (b13 : 0 ≤ x13 ∧ x13 ≤ 255) (b14 : 0 ≤ x14 ∧ x14 ≤ 255) (b15 : 0 ≤ x15 ∧ x15 ≤ 255) :
    Calls Tryd.prog 10 #[v, .agg #[.int .u64 (be8 x0 x1 x2 x3 x4 x5 x6 x7), .int .u64 (be8 x8 x9 x10 x11 x12 x13 x14 x15), .pointer (some z6)]] w fun e w' => ∃ v', e = .returned v' ∧ w'.ownsRow base 5 1 v' (n + 17) (xs ++ .int .u8 144 :: [.int .u8 x0, .int .u8 x1, .int .u8 x2, .int .u8 x3, .int .u8 x4, .int .u8 x5, .int .u8 x6, .int .u8 x7, .int .u8 x8, .int .u8 x9, .int .u8 x10, .int .u8 x11, .int .u8 x12, .int .u8 x13, .int .u8 x14, .int .u8 x15]) ∧ Below base w w' := by
  have hbase := hsrc.2.1
  have HS : Hid (Src w base v n xs r) := hsrc
  have hlta : z6.block < w.heap.size := (Array.getElem?_eq_some_iff.1 ha).1
  have hltb : z.block < w.heap.size := (Array.getElem?_eq_some_iff.1 hb).1
  have HA : Hid (w.heap[z6.block]? = some (.cells ca ta (0, 0))) := ha
  have HB : Hid (w.heap[z.block]? = some (.cells cb tb (0, 0))) := hb
  have HNE : Hid (z6 ≠ z) := hne
  have HZ : Hid (w.cell? ⟨0, 0, none⟩ = some (.pointer (some z))) := hz
  obtain ⟨hi, ehi⟩ : ∃ hi, hi = be8 x0 x1 x2 x3 x4 x5 x6 x7 := ⟨_, rfl⟩
  obtain ⟨lo, elo⟩ : ∃ lo, lo = be8 x8 x9 x10 x11 x12 x13 x14 x15 := ⟨_, rfl⟩
  rw [← ehi, ← elo]
  have EHI : Hid (hi = be8 x0 x1 x2 x3 x4 x5 x6 x7) := ehi
  have ELO : Hid (lo = be8 x8 x9 x10 x11 x12 x13 x14 x15) := elo
  clear hsrc ha hb hne hz ehi elo
  have hsz : 0 < w.heap.size := by omega
  go_enter Tryd.func10, Tryd.ntmps10
  go_wp2_with fail
  have hbx : Below w.heap.size w (w.alloc (.cells #[.int .u64 hi, .int .u64 lo, .pointer (some z6)] 38)) := (Below.refl _ _).alloc (Nat.le_refl _) _
  refine (is4_no hi lo z z6 _ (ca := ca) (cb := cb) (ta := ta) (tb := tb) ?_ (cell_later hbx HZ.out) HNE.out ?_ ?_).mono ?_
  · simp
  · rw [hbx.block _ hlta]; exact HA.out
  · rw [hbx.block _ hltb]; exact HB.out
  rintro e w1 ⟨rfl, hb⟩
  obtain ⟨hc, hf⟩ := bcell hb
  have hz1 : w.heap.size < w1.heap.size := by have := hb.size; simp at this; omega
  have HB1 : Hid (Below w.heap.size w w1) := hbx.trans (hb.mono (by simp))
  clear hb hbx HA HB HNE HZ
  go_wp2_with fail
  rw [EHI.out, ELO.out]
  refine (as16_any x0 x1 x2 x3 x4 x5 x6 x7 x8 x9 x10 x11 x12 x13 x14 x15 (some z6) _ b0 b1 b2 b3 b4 b5 b6 b7 b8 b9 b10 b11 b12 b13 b14 b15).mono ?_
  rintro e w2 ⟨rfl, hb2⟩
  rw [← EHI.out, ← ELO.out]
  have HB2 : Hid (Below w1.heap.size w1 w2) := hb2
  clear hc hf hb2 EHI ELO
  go_wp2_with fail
  have hbel : Below w.heap.size w w2 := HB1.out.trans (HB2.out.mono (by omega))
  have hsz2 := hbel.size
  have hbel3 : Below w.heap.size w (w2.alloc (.cells #[.int .u8 x0, .int .u8 x1, .int .u8 x2, .int .u8 x3, .int .u8 x4, .int .u8 x5, .int .u8 x6, .int .u8 x7, .int .u8 x8, .int .u8 x9, .int .u8 x10, .int .u8 x11, .int .u8 x12, .int .u8 x13, .int .u8 x14, .int .u8 x15] 27)) := hbel.alloc hsz2 _
  refine (string_any base v n xs r w2.heap.size 16 [.int .u8 x0, .int .u8 x1, .int .u8 x2, .int .u8 x3, .int .u8 x4, .int .u8 x5, .int .u8 x6, .int .u8 x7, .int .u8 x8, .int .u8 x9, .int .u8 x10, .int .u8 x11, .int .u8 x12, .int .u8 x13, .int .u8 x14, .int .u8 x15] (by omega) (by omega) (by omega) _ (HS.out.later hbel3) rfl ?_ (cells16 w2 x0 x1 x2 x3 x4 x5 x6 x7 x8 x9 x10 x11 x12 x13 x14 x15 27) ?_).mono ?_
  · intro h; have := HS.out.lt _ h.symm; omega
  · intro u hu; simp at hu; rcases hu with rfl | rfl | rfl | rfl | rfl | rfl | rfl | rfl | rfl | rfl | rfl | rfl | rfl | rfl | rfl | rfl <;> rfl
  rintro e w4 ⟨v', rfl, hown', hb4⟩
  have HO : Hid (w4.ownsRow base 5 1 v' (n + 1 + 16) (xs ++ .int .u8 144 :: [.int .u8 x0, .int .u8 x1, .int .u8 x2, .int .u8 x3, .int .u8 x4, .int .u8 x5, .int .u8 x6, .int .u8 x7, .int .u8 x8, .int .u8 x9, .int .u8 x10, .int .u8 x11, .int .u8 x12, .int .u8 x13, .int .u8 x14, .int .u8 x15])) := hown'
  have HB4 : Hid (Below base w w4) := (hbel3.mono hbase).trans hb4
  clear hown' hb4 hbel hbel3
  go_wp2
  go_ret
  exact ⟨v', rfl, HO.out, HB4.out⟩

set_option maxHeartbeats 2000000 in
theorem append16_any (base : Nat) (v : Value) (n : Nat) (xs : List Value) (r : Option Nat) (x0 x1 x2 x3 x4 x5 x6 x7 x8 x9 x10 x11 x12 x13 x14 x15 : Int) (z z6 : Addr) (hn : n ≤ 2097152) (w : World) (hsrc : Src w base v n xs r) (hb3 : 3 ≤ base) (hz : w.cell? ⟨0, 0, none⟩ = some (.pointer (some z))) (hz6 : w.cell? ⟨1, 0, none⟩ = some (.pointer (some z6)))
   {ca cb : Array Value} {ta tb : TypeId} (hne : z6 ≠ z) (ha : w.heap[z6.block]? = some (.cells ca ta (0, 0))) (hb : w.heap[z.block]? = some (.cells cb tb (0, 0)))
   (b0 : 0 ≤ x0 ∧ x0 ≤ 255) (b1 : 0 ≤ x1 ∧ x1 ≤ 255) (b2 : 0 ≤ x2 ∧ x2 ≤ 255) (b3 : 0 ≤ x3 ∧ x3 ≤ 255) (b4 : 0 ≤ x4 ∧ x4 ≤ 255) (b5 : 0 ≤ x5 ∧ x5 ≤ 255) (b6 : 0 ≤ x6 ∧ x6 ≤ 255) (b7 : 0 ≤ x7 ∧ x7 ≤ 255) (b8 : 0 ≤ x8 ∧ x8 ≤ 255) (b9 : 0 ≤ x9 ∧ x9 ≤ 255) (b10 : 0 ≤ x10 ∧ x10 ≤ 255) (b11 : 0 ≤ x11 ∧ x11 ≤ 255) (b12 : 0 ≤ x12 ∧ x12 ≤ 255) (b13 : 0 ≤ x13 ∧ x13 ≤ 255) (b14 : 0 ≤ x14 ∧ x14 ≤ 255) (b15 : 0 ≤ x15 ∧ x15 ≤ 255) :
    Calls Tryd.prog 9 #[v, .agg #[.int .u8 x0, .int .u8 x1, .int .u8 x2, .int .u8 x3, .int .u8 x4, .int .u8 x5, .int .u8 x6, .int .u8 x7, .int .u8 x8, .int .u8 x9, .int .u8 x10, .int .u8 x11, .int .u8 x12, .int .u8 x13, .int .u8 x14, .int .u8 x15]] w fun e w' => ∃ v', e = .returned v' ∧ w'.ownsRow base 5 1 v' (n + 17) (xs ++ .int .u8 144 :: [.int .u8 x0, .int .u8 x1, .int .u8 x2, .int .u8 x3, .int .u8 x4, .int .u8 x5, .int .u8 x6, .int .u8 x7, .int .u8 x8, .int .u8 x9, .int .u8 x10, .int .u8 x11, .int .u8 x12, .int .u8 x13, .int .u8 x14, .int .u8 x15]) ∧ Below base w w' := by
  have hbase := hsrc.2.1
  have HS : Hid (Src w base v n xs r) := hsrc
  have hlta : z6.block < w.heap.size := (Array.getElem?_eq_some_iff.1 ha).1
  have hltb : z.block < w.heap.size := (Array.getElem?_eq_some_iff.1 hb).1
  have HA : Hid (w.heap[z6.block]? = some (.cells ca ta (0, 0))) := ha
  have HB : Hid (w.heap[z.block]? = some (.cells cb tb (0, 0))) := hb
  have HNE : Hid (z6 ≠ z) := hne
  have HZ : Hid (w.cell? ⟨0, 0, none⟩ = some (.pointer (some z))) := hz
  have HZ6 : Hid (w.cell? ⟨1, 0, none⟩ = some (.pointer (some z6))) := hz6
  clear hsrc ha hb hne hz hz6
  have hsz : 0 < w.heap.size := by omega
  go_enter Tryd.func9, Tryd.ntmps9
  go_wp2_with fail
  have hbx : Below w.heap.size w (w.alloc (.cells #[.int .u8 x0, .int .u8 x1, .int .u8 x2, .int .u8 x3, .int .u8 x4, .int .u8 x5, .int .u8 x6, .int .u8 x7, .int .u8 x8, .int .u8 x9, .int .u8 x10, .int .u8 x11, .int .u8 x12, .int .u8 x13, .int .u8 x14, .int .u8 x15] 27)) := (Below.refl _ _).alloc (Nat.le_refl _) _
  refine (addrFrom16_any x0 x1 x2 x3 x4 x5 x6 x7 x8 x9 x10 x11 x12 x13 x14 x15 (some z6) _ ?_ (cell_later hbx HZ6.out) b0 b1 b2 b3 b4 b5 b6 b7 b8 b9 b10 b11 b12 b13 b14 b15).mono ?_
  · simp; omega
  rintro e w1 ⟨rfl, hb⟩
  have hb01 : Below w.heap.size w w1 := hbx.trans (hb.mono (by simp))
  have HB1 : Hid (Below w.heap.size w w1) := hb01
  clear hb hb01 hbx
  go_wp2_with fail
  refine (ip_six base v n xs r x0 x1 x2 x3 x4 x5 x6 x7 x8 x9 x10 x11 x12 x13 x14 x15 z z6 hn _ (HS.out.later HB1.out) hb3 (cell_later HB1.out HZ.out) (ca := ca) (cb := cb) (ta := ta) (tb := tb) HNE.out ?_ ?_ b0 b1 b2 b3 b4 b5 b6 b7 b8 b9 b10 b11 b12 b13 b14 b15).mono ?_
  · rw [HB1.out.block _ hlta]; exact HA.out
  · rw [HB1.out.block _ hltb]; exact HB.out
  rintro e w2 ⟨v', rfl, hown', hb2⟩
  have HO : Hid (w2.ownsRow base 5 1 v' (n + 17) (xs ++ .int .u8 144 :: [.int .u8 x0, .int .u8 x1, .int .u8 x2, .int .u8 x3, .int .u8 x4, .int .u8 x5, .int .u8 x6, .int .u8 x7, .int .u8 x8, .int .u8 x9, .int .u8 x10, .int .u8 x11, .int .u8 x12, .int .u8 x13, .int .u8 x14, .int .u8 x15])) := hown'
  have HB2 : Hid (Below base w w2) := (HB1.out.mono hbase).trans hb2
  clear hown' hb2
  go_wp2
  go_ret
  exact ⟨v', rfl, HO.out, HB2.out⟩
end Go.Proofs.Qxb6630228aDoor
