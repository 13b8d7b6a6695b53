import Derived.Test.Qxb6630228aDoorA
namespace Go.Proofs.Qxb6630228aDoor
open Go.ChangeShapes Go.WideShapes Go.ChangeAt Go.RowKit
set_option linter.unusedVariables false

theorem Tryd.info5 : (Tryd.prog.info? 5).map (fun i => (i.zero, i.size, i.bytes)) = some (some (.int .u8 0), 1, 1) := by kernel_rfl

/-- WHAT IS APPENDED TO: a row of the call's own, of whatever capacity (it may be written: 'r' its block); or a full slice (its capacity is its length: an append moves it: nothing of it is written). -/
def Src (w : World) (base : Nat) (v : Value) (n : Nat) (xs : List Value) (r : Option Nat) : Prop :=
  xs.length = n ∧ base ≤ w.heap.size ∧ ((w.ownsRow base 5 1 v n xs ∧ r = v.ownBlock) ∨
    (∃ ao : Option Addr, v = .slice ao n n ∧ (ao = none → n = 0) ∧ (∀ b, ao = some b → ∀ j u, xs[j]? = some u → w.cell? (b.add j) = some u) ∧ r = none))

theorem ownsRow_lower {w : World} {base base' : Nat} {e : TypeId} {size : Nat} {v : Value} {n : Nat} {xs : List Value} (h : w.ownsRow base e size v n xs) (hb : base' ≤ base) : w.ownsRow base' e size v n xs := by
  obtain ⟨h1, h2⟩ := h
  refine ⟨h1, ?_⟩
  rcases h2 with h2 | ⟨g, cap, cur, hv, hg, r⟩
  · exact Or.inl h2
  · exact Or.inr ⟨g, cap, cur, hv, Nat.le_trans hb hg, r⟩

theorem grownBy_trans {a b c : World} {r : Option Nat} (h : a.grownBy b r) (k : b.grownBy c r) : a.grownBy c r :=
  ⟨k.os.trans h.os, k.tape.trans h.tape, k.output.trans h.output, Nat.le_trans h.size k.size, fun i hi hr => (k.block i (Nat.lt_of_lt_of_le hi h.size) hr).trans (h.block i hi hr)⟩

set_option maxHeartbeats 1000000 in
theorem prefix_any (base : Nat) (v : Value) (n : Nat) (xs : List Value) (r : Option Nat) (s : Int) (hs0 : 0 ≤ s) (hs1 : s ≤ 55) (hn : n ≤ 4194304) (w : World) (hsrc : Src w base v n xs r) :
    Calls Tryd.prog 20 #[v, .int .u8 128, .int .i64 s] w fun e w' => ∃ v', e = .returned v' ∧ w'.ownsRow base 5 1 v' (n + 1) (xs ++ [.int .u8 (128 + s)]) ∧ w.grownBy w' r := by
  obtain ⟨i0, hi, hz0, hz1, hz2⟩ := info_parts Tryd.info5
  obtain ⟨hlen, hbase, ⟨hown, rfl⟩ | ⟨ao, rfl, hnone, hold, rfl⟩⟩ := hsrc
  · go_enter Tryd.func20, Tryd.ntmps20
    go_wp2_with (at_builtin; refine wpList_append_own _ rfl _ _ 22 rfl base 5 i0 (.int .u8 0) 1 1 Tryd.underlying22 hi hz0 hz1 hz2 rfl (by decide) _ _ _ rfl (hown.alloc _) ⟨w.heap.size, 0, none⟩ 1 1 [.int .u8 (128 + s)] rfl rfl ?c1 ?c2 ?c3 ?c4 ?c5 ?_)
    case c1 => exact cell_one_new _ _ _
    case c2 => intro u hu; simp at hu; subst hu; rfl
    case c3 => unfold maxLen; omega
    case c4 => omega
    case c5 => simp; omega
    intro v' w1 hown' hgrow _
    go_wp2
    go_ret
    exact ⟨v', rfl, hown', grownBy_trans (World.grownBy_alloc w _ _) hgrow⟩
  · go_enter Tryd.func20, Tryd.ntmps20
    go_wp2_with (at_builtin; refine wpList_append_grows _ rfl _ _ 22 rfl 5 i0 (.int .u8 0) 1 1 Tryd.underlying22 hi hz0 hz1 hz2 rfl (by decide) ao n n xs rfl ?d0 ?d00 ?d01 ⟨w.heap.size, 0, none⟩ 1 1 [.int .u8 (128 + s)] rfl rfl ?d1 ?d2 ?d3 ?d4 ?d5 ?_)
    case d0 => intro h; exact ⟨hnone h, hnone h⟩
    case d00 => simpa using hlen
    case d01 => intro b hb j u hj; exact cell_later ((Below.refl _ _).alloc (Nat.le_refl _) _) (hold b hb j u hj)
    case d1 => exact cell_one_new _ _ _
    case d2 => intro u hu; simp at hu; subst hu; rfl
    case d3 => omega
    case d4 => unfold maxLen; omega
    case d5 => omega
    intro v' w1 hown' hgrow
    go_wp2
    go_ret
    exact ⟨v', rfl, ownsRow_lower hown' (by omega), grownBy_trans (World.grownBy_alloc w _ _) hgrow⟩

theorem Src.row {w : World} {base : Nat} {v : Value} {n : Nat} {xs : List Value} {r : Option Nat} (h : Src w base v n xs r) : ∀ k, r = some k → base ≤ k := by
  obtain ⟨_, _, ⟨hown, rfl⟩ | ⟨_, _, _, _, rfl⟩⟩ := h
  · exact fun k hk => (hown.lt k hk).1
  · intro k hk; cases hk

set_option maxHeartbeats 1000000 in
theorem string_any (base : Nat) (v : Value) (n : Nat) (xs : List Value) (r : Option Nat) (g m : Nat) (news : List Value) (hm : 2 ≤ m) (hm2 : m ≤ 55) (hn : n ≤ 2097152) (w : World) (hsrc : Src w base v n xs r)
    (hnl : news.length = m) (hg : some g ≠ r) (hcell : ∀ j u, news[j]? = some u → w.cell? ⟨g, j, none⟩ = some u) (h1 : ∀ u ∈ news, u.oneCell' = true) :
    Calls Tryd.prog 15 #[v, .slice (some ⟨g, 0, none⟩) m m] w fun e w' => ∃ v', e = .returned v' ∧ w'.ownsRow base 5 1 v' (n + 1 + m) (xs ++ .int .u8 (128 + m) :: news) ∧ Below base w w' := by
  obtain ⟨i0, hi, hz0, hz1, hz2⟩ := info_parts Tryd.info5
  have hrow := hsrc.row
  have hbase := hsrc.2.1
  have HS : Hid (Src w base v n xs r) := hsrc
  have HC : Hid (∀ j u, news[j]? = some u → w.cell? ⟨g, j, none⟩ = some u) := hcell
  have HG : Hid (some g ≠ r) := hg
  have HL : Hid (news.length = m) := hnl
  clear hsrc hcell hg hnl
  go_enter Tryd.func15, Tryd.ntmps15
  go_wp2_with fail
  refine (prefix_any base v n xs r _ (by omega) (by omega) (by omega) _ HS.out).mono ?_
  rintro e w1 ⟨v1, rfl, hown1, hg1⟩
  go_wp2_with (at_builtin; refine wpList_append_own _ rfl _ _ 22 rfl base 5 i0 (.int .u8 0) 1 1 Tryd.underlying22 hi hz0 hz1 hz2 rfl (by decide) _ _ _ rfl hown1 ⟨g, 0, none⟩ m m news rfl ?c0 ?c1 ?c2 ?c3 ?c4 ?c5 ?_)
  case c0 => simpa using HL.out
  case c1 => intro j u hj; rw [Addr.add_lit, Nat.zero_add]; exact hg1.cell (HC.out j u hj) HG.out
  case c2 => exact h1
  case c3 => unfold maxLen; omega
  case c4 => omega
  case c5 => have := hg1.size; omega
  intro v' w2 hown' hgrow _
  go_wp2
  go_ret
  refine ⟨v', rfl, hown', ?_⟩
  have b1 := (Below.refl base w).grown hg1 hbase hrow
  exact b1.grown hgrow (by have := hg1.size; omega) (fun k hk => (hown1.lt k hk).1)

theorem Src.lt {w : World} {base : Nat} {v : Value} {n : Nat} {xs : List Value} {r : Option Nat} (h : Src w base v n xs r) : ∀ k, r = some k → k < w.heap.size := by
  obtain ⟨_, _, ⟨hown, rfl⟩ | ⟨_, _, _, _, rfl⟩⟩ := h
  · exact fun k hk => (hown.lt k hk).2
  · intro k hk; cases hk

theorem ownsRow_later {w w1 : World} {base : Nat} {e : TypeId} {size : Nat} {v : Value} {n : Nat} {xs : List Value} (h : w.ownsRow base e size v n xs) (hb : Below w.heap.size w w1) : w1.ownsRow base e size v n xs :=
  h.kept (row := none) ⟨hb.os, hb.tape, hb.output, hb.size, fun k hk _ => hb.block k hk⟩ (by cases v.ownBlock <;> simp)

theorem Src.later {w w1 : World} {base : Nat} {v : Value} {n : Nat} {xs : List Value} {r : Option Nat} (h : Src w base v n xs r) (hb : Below w.heap.size w w1) : Src w1 base v n xs r := by
  obtain ⟨h1, h2, ⟨hown, hr⟩ | ⟨ao, hv, hnone, hold, hr⟩⟩ := h
  · exact ⟨h1, Nat.le_trans h2 hb.size, .inl ⟨ownsRow_later hown hb, hr⟩⟩
  · exact ⟨h1, Nat.le_trans h2 hb.size, .inr ⟨ao, hv, hnone, fun b e j u hj => cell_later hb (hold b e j u hj), hr⟩⟩

theorem bcell {W w1 : World} (hb : Below W.heap.size W w1) : (∀ b o, b < W.heap.size → w1.cell? ⟨b, o, none⟩ = W.cell? ⟨b, o, none⟩) ∧ (∀ b o, b < W.heap.size → w1.frozen? ⟨b, o, none⟩ = W.frozen? ⟨b, o, none⟩) :=
  ⟨fun b o h => hb.cell (p := ⟨b, o, none⟩) h, fun b o h => hb.frozen (p := ⟨b, o, none⟩) h⟩

set_option maxHeartbeats 1000000 in
theorem ip_four (base : Nat) (v : Value) (n : Nat) (xs : List Value) (r : Option Nat) (a0 a1 a2 a3 : Int) (z : Addr) (hn : n ≤ 2097152) (w : World) (hsrc : Src w base v n xs r) (hb3 : 3 ≤ base) (hz : w.cell? ⟨0, 0, none⟩ = some (.pointer (some z)))
   (b0 : 0 ≤ a0 ∧ a0 ≤ 255) (b1 : 0 ≤ a1 ∧ a1 ≤ 255) (b2 : 0 ≤ a2 ∧ a2 ≤ 255) (b3 : 0 ≤ a3 ∧ a3 ≤ 255) :
    Calls Tryd.prog 10 #[v, .agg #[.int .u64 0, .int .u64 (281470681743360 + a0 * 16777216 + a1 * 65536 + a2 * 256 + a3), .pointer (some z)]] w fun e w' => ∃ v', e = .returned v' ∧ w'.ownsRow base 5 1 v' (n + 5) (xs ++ [.int .u8 132, .int .u8 a0, .int .u8 a1, .int .u8 a2, .int .u8 a3]) ∧ Below base w w' := by
  have hbase := hsrc.2.1
  have HS : Hid (Src w base v n xs r) := hsrc
  clear hsrc
  have hsz : 0 < w.heap.size := by omega
  go_enter Tryd.func10, Tryd.ntmps10
  go_wp2_with fail
  refine (is4_yes _ _ z _ ?_ ?_).mono ?_
  · simp
  · simpa [World.cell?_alloc_past, hsz] using hz
  rintro e w1 ⟨rfl, hb⟩
  obtain ⟨hc, hf⟩ := bcell hb
  have hz1 : w.heap.size < w1.heap.size := by have := hb.size; simp at this; omega
  have hb01 : Below w.heap.size w w1 := ((Below.refl _ _).alloc (Nat.le_refl _) _).trans (hb.mono (by simp))
  have HB1 : Hid (Below w.heap.size w w1) := hb01
  have hz' : w1.cell? ⟨0, 0, none⟩ = some (.pointer (some z)) := cell_later hb01 hz
  clear hb hb01
  go_wp2_with fail
  refine (as4_any a0 a1 a2 a3 z _ ?_ hz' b0 b1 b2 b3).mono ?_
  · omega
  rintro e w2 ⟨rfl, hb2⟩
  have HB2 : Hid (Below w1.heap.size w1 w2) := hb2
  clear hc hf hb2 hz hz'
  go_wp2_with fail
  have hbel : Below w.heap.size w w2 := HB1.out.trans (HB2.out.mono (by omega))
  have hsz2 := hbel.size
  have hbel3 : Below w.heap.size w (w2.alloc (.cells #[.int .u8 a0, .int .u8 a1, .int .u8 a2, .int .u8 a3] 23)) := hbel.alloc hsz2 _
  refine (string_any base v n xs r w2.heap.size 4 [.int .u8 a0, .int .u8 a1, .int .u8 a2, .int .u8 a3] (by omega) (by omega) (by omega) _ (HS.out.later hbel3) rfl ?_ ?_ ?_).mono ?_
  · intro h; have := HS.out.lt _ h.symm; omega
  · intro j u hj
    match j, hj with
    | 0, hj => simp at hj; subst hj; simp
    | 1, hj => simp at hj; subst hj; simp
    | 2, hj => simp at hj; subst hj; simp
    | 3, hj => simp at hj; subst hj; simp
    | j + 4, hj => simp at hj
  · intro u hu; simp at hu; rcases hu with rfl | rfl | rfl | rfl <;> rfl
  rintro e w4 ⟨v', rfl, hown', hb4⟩
  have HO : Hid (w4.ownsRow base 5 1 v' (n + 1 + 4) (xs ++ [.int .u8 132, .int .u8 a0, .int .u8 a1, .int .u8 a2, .int .u8 a3])) := hown'
  have HB4 : Hid (Below base w w4) := (hbel3.mono hbase).trans hb4
  clear hown' hb4 hbel hbel3
  go_wp2
  go_ret
  exact ⟨v', rfl, HO.out, HB4.out⟩

set_option maxHeartbeats 1000000 in
theorem append4_any (base : Nat) (v : Value) (n : Nat) (xs : List Value) (r : Option Nat) (a0 a1 a2 a3 : Int) (z : Addr) (hn : n ≤ 2097152) (w : World) (hsrc : Src w base v n xs r) (hb3 : 3 ≤ base) (hz : w.cell? ⟨0, 0, none⟩ = some (.pointer (some z)))
   (b0 : 0 ≤ a0 ∧ a0 ≤ 255) (b1 : 0 ≤ a1 ∧ a1 ≤ 255) (b2 : 0 ≤ a2 ∧ a2 ≤ 255) (b3 : 0 ≤ a3 ∧ a3 ≤ 255) :
    Calls Tryd.prog 7 #[v, .agg #[.int .u8 a0, .int .u8 a1, .int .u8 a2, .int .u8 a3]] w fun e w' => ∃ v', e = .returned v' ∧ w'.ownsRow base 5 1 v' (n + 5) (xs ++ [.int .u8 132, .int .u8 a0, .int .u8 a1, .int .u8 a2, .int .u8 a3]) ∧ Below base w w' := by
  have hbase := hsrc.2.1
  have HS : Hid (Src w base v n xs r) := hsrc
  clear hsrc
  have hsz : 0 < w.heap.size := by omega
  go_enter Tryd.func7, Tryd.ntmps7
  go_wp2_with fail
  refine (addrFrom4_any a0 a1 a2 a3 (some z) _ ?_ ?_ b0 b1 b2 b3).mono ?_
  · simp
  · simpa [World.cell?_alloc_past, hsz] using hz
  rintro e w1 ⟨rfl, hb⟩
  have hb01 : Below w.heap.size w w1 := ((Below.refl _ _).alloc (Nat.le_refl _) _).trans (hb.mono (by simp))
  have HB1 : Hid (Below w.heap.size w w1) := hb01
  have hz' : w1.cell? ⟨0, 0, none⟩ = some (.pointer (some z)) := cell_later hb01 hz
  clear hb hb01
  go_wp2_with fail
  refine (ip_four base v n xs r a0 a1 a2 a3 z hn _ (HS.out.later HB1.out) hb3 hz' b0 b1 b2 b3).mono ?_
  rintro e w2 ⟨v', rfl, hown', hb2⟩
  have HO : Hid (w2.ownsRow base 5 1 v' (n + 5) (xs ++ [.int .u8 132, .int .u8 a0, .int .u8 a1, .int .u8 a2, .int .u8 a3])) := hown'
  have HB2 : Hid (Below base w w2) := (HB1.out.mono hbase).trans hb2
  clear hown' hb2
  go_wp2
  go_ret
  exact ⟨v', rfl, HO.out, HB2.out⟩
end Go.Proofs.Qxb6630228aDoor
