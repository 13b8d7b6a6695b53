import Derived.Test.Qxb6630282aA
import Derived.OpenShut
import Derived.ShutString
import Derived.ChangeOld
import Derived.Below
namespace Go.Proofs.Qxb6630282a.fnPutVarU64DecodesBack
open Go.ChangeShapes Go.WideShapes Go.ChangeAt Go.RowKit
open Go.ChangeMaps (open_string shut_string)
set_option linter.unusedVariables false

theorem own : ownKnob Try.prog.godebug = none := by kernel_rfl
theorem laidOut : laidOutB Try.prog = true := by kernel_rfl

set_option maxHeartbeats 1000000 in
theorem decode_any (g n : Nat) (x : Int) (w : World) (hn1 : 1 ≤ n) (hn9 : n ≤ 9) (hx0 : 0 ≤ x) (hx1 : x ≤ 18446744073709551615) (h1 : n = 1 → x < 248) (h2 : x / 256 ^ (n - 1) = 0 ∨ n = 1)
    (hcell : ∀ j, j < n → w.cell? ⟨g, j, none⟩ = some (.int .u8 (enc n x j))) :
    Calls Try.prog 7 #[.slice (some ⟨g, 0, none⟩) n n] w fun e w' => e = .returned (.tuple #[.int .u64 x, .bool true]) ∧ w' = w := by
  by_cases hone : n = 1
  · subst hone
    have hx : x < 248 := h1 rfl
    have hc0 : w.cell? ⟨g, 0, none⟩ = some (.int .u8 x) := by rw [hcell 0 (by omega), enc_one]; congr 2; omega
    clear hcell h1 h2
    go_enter Try.func7, Try.ntmps7
    go_wp2
    go_ret2
    exact ⟨rfl, rfl⟩
  · have hz : x / 256 ^ (n - 1) = 0 := by rcases h2 with h | h; exact h; exact absurd h hone
    have hc0 : w.cell? ⟨g, 0, none⟩ = some (.int .u8 (248 + ((n : Int) - 2))) := by rw [hcell 0 (by omega), enc_head n x hone]
    have HC : Hid (∀ j, j < n → w.cell? ⟨g, j, none⟩ = some (.int .u8 (enc n x j))) := hcell
    have HZ : Hid (x / 256 ^ (n - 1) = 0) := hz
    have hq : ((n : Int) == 1) = false := by simp; omega
    clear hcell h1 h2 hz
    go_enter Try.func7, Try.ntmps7
    go_wp2
    go_loop [5, 6] (fun v i => ∃ (k : Nat) (y : Int), 1 ≤ k ∧ k ≤ n ∧ i = .int .i64 k ∧ v = .int .u64 y ∧ y = x / 256 ^ (n - k)) (fun _ i => n - (intOf i).toNat)
    case atStart => exact ⟨1, 0, by omega, by omega, rfl, rfl, HZ.out.symm⟩
    case round =>
      obtain ⟨k, y, hk1, hk, rfl, rfl, hy⟩ := hrel
      by_cases hlt : k < n
      · obtain ⟨b, hb⟩ : ∃ b, b = enc n x k := ⟨_, rfl⟩
        have hck : w.cell? ⟨g, k, none⟩ = some (.int .u8 b) := by rw [hb]; exact HC.out k hlt
        have hstep : y * 256 + b = x / 256 ^ (n - (k + 1)) := by rw [hy, hb]; exact dec_step x n k hk1 hlt
        have hb0 : 0 ≤ b ∧ b ≤ 255 := by rw [hb, enc_tail n x k (by omega)]; omega
        have hy0 : 0 ≤ y := by rw [hy]; exact div_nonneg' _ _ hx0
        have hle : y * 256 + b ≤ 18446744073709551615 := by rw [hstep]; exact Int.le_trans (div_le' _ _ hx0) hx1
        have HS : Hid (y * 256 + b = x / 256 ^ (n - (k + 1))) := hstep
        clear hb hstep hy
        go_wp2
        go_round
        case rel => exact ⟨k + 1, _, by omega, hlt, by go_num, rfl, HS.out⟩
        case measure => simp [intOf]; omega
      · obtain rfl : k = n := by omega
        have hyx : y = x := by rw [hy, Nat.sub_self, div_zero']
        subst hyx
        clear hy
        go_wp2
        go_ret2
        exact ⟨rfl, rfl⟩

theorem bytes_any (a : Option Addr) (len cap : Nat) (x : Int) (w : World) (hm : len ≤ 9223372036854775807) :
    Calls Try.prog 5 #[.slice a len cap, .int .u64 x] w fun e w' => e = .returned (.bool (decide (len ≤ 1048576))) ∧ w = w' := by
  by_cases h : len ≤ 1048576
  · have hd : decide (len ≤ 1048576) = true := by simpa using h
    rw [hd]
    clear hd
    go_enter Try.func5, Try.ntmps5
    go_wp2
    go_ret
    exact ⟨rfl, rfl⟩
  · have hd : decide (len ≤ 1048576) = false := by simpa using h
    rw [hd]
    clear hd
    go_enter Try.func5, Try.ntmps5
    go_wp2
    go_ret
    exact ⟨rfl, rfl⟩
/-- WHAT THE WALK IS TOLD OF A SLICE OF INTEGERS THAT CAME IN: it is nil; or it leads to a row of 'cap' cells, the numbers 'zs' (the first 'len' are its elements, the rest its spare room), each fitting its kind. -/
def IsRow (k : IntKind) (w : World) (a : Option Addr) (len cap : Nat) (zs : List Int) : Prop :=
  (a = none ∧ len = 0 ∧ cap = 0 ∧ zs = []) ∨
  ∃ x, a = some x ∧ len ≤ cap ∧ cap ≤ maxLen ∧ zs.length = cap ∧ (∀ i, i < zs.length → w.cell? (x.add i) = some (.int k (zs.getD i 0))) ∧ ∀ n ∈ zs, (Lit.int k n).wf = true


set_option maxHeartbeats 2000000 in
/-- The law where the buffer can hold x: the copy, the encoding, the decoder. -/
theorem walk_main (b off n cap : Nat) (zs : List Int) (x : Int) (w : World) (hn1 : 1 ≤ n) (hn9 : n ≤ 9) (hx0 : 0 ≤ x) (hx1 : x ≤ 18446744073709551615)
    (h : (n = 1 ∧ x < 248) ∨ (2 ≤ n ∧ n ≤ 8 ∧ x / 2 ^ (8 * (n - 1)) = 0) ∨ n = 9) (hcell : ∀ j, j < n → w.cell? ⟨b, off + j, none⟩ = some (.int .u8 (zs.getD j 0))) :
    Calls Try.prog 3 #[.slice (some ⟨b, off, none⟩) n cap, .int .u64 x] w fun e w' => e = .returned (.bool true) ∧ Below w.heap.size w w' := by
  obtain ⟨i0, hi, hz0, hz1, hz2⟩ := info_parts Try.info5
  have HI : Hid (Try.prog.info? 5 = some i0 ∧ i0.zero = some (.int .u8 0) ∧ i0.size = 1 ∧ i0.bytes = 1) := ⟨hi, hz0, hz1, hz2⟩
  have HC : Hid (∀ j, j < n → w.cell? ⟨b, off + j, none⟩ = some (.int .u8 (zs.getD j 0))) := hcell
  have hblk : b < w.heap.size := World.block_lt_of_cell? _ _ (hcell 0 (by omega))
  have HD : Hid ((n = 1 → x < 248) ∧ (x / 256 ^ (n - 1) = 0 ∨ n = 1)) := by
    rcases h with ⟨h1, h2⟩ | ⟨h1, h2, h3⟩ | h1
    · exact ⟨fun _ => h2, .inr h1⟩
    · exact ⟨fun h => absurd h (by omega), .inl (by rw [← pow_two]; exact h3)⟩
    · subst h1; exact ⟨fun h => absurd h (by omega), .inl (by simp; omega)⟩
  have hd : decide (n ≤ 1048576) = true := by simp; omega
  clear hcell hi hz0 hz1 hz2
  have hcase : ∀ (K : Prop), ((n ≤ 1 ∧ x < 248) → K) → ((2 ≤ n ∧ n ≤ 8 ∧ (x / 2 ^ (8 * (n - 1)) != 0) = false) → K) → (9 ≤ n → K) → K := by
    intro K k1 k2 k3
    rcases h with h | ⟨h1, h2, h3⟩ | h
    · exact k1 ⟨by omega, h.2⟩
    · exact k2 ⟨h1, h2, by simp [h3]⟩
    · exact k3 (by omega)
  clear h
  refine hcase _ ?_ ?_ ?_
  · rintro ⟨hlo, hx⟩
    obtain rfl : n = 1 := by omega
    clear hcase
    go_enter Try.func3, Try.ntmps3
    go_wp2_with (first | (go_at_call 5; refine (bytes_any _ _ _ _ _ (by omega)).mono ?_; rintro e w' ⟨rfl, rfl⟩; rw [hd]) | (at_make; refine wpList_make_full _ rfl _ _ 22 rfl w.heap.size 5 i0 (.int .u8 0) 1 Try.underlying22 HI.out.1 HI.out.2.1 HI.out.2.2.1 _ _ _ _ 1 rfl rfl (by omega) (by omega) (by rw [HI.out.2.2.2]; omega) (by unfold maxLen; omega) (Nat.le_refl _) ?_))
    intro w1 hown hgrow
    have HB1 : Hid (Below w.heap.size w w1) := (Below.refl _ _).grown hgrow (Nat.le_refl _) (fun k hk => by cases hk)
    have HO : Hid (w1.ownsRow w.heap.size 5 1 (.slice (some ⟨w.heap.size, 0, none⟩) 1 1) 1 (madeCells #[.int .u8 0] 1).toList) := hown
    clear hgrow hown
    go_wp2
    go_loopw [7] (fun i wr => ∃ k : Nat, k ≤ 1 ∧ i = .int .i64 k ∧ Below w.heap.size w wr ∧ ∃ ys, wr.ownsRow w.heap.size 5 1 (.slice (some ⟨w.heap.size, 0, none⟩) 1 1) 1 ys) (fun i _ => 1 - (intOf i).toNat)
    case atStart => exact ⟨0, Nat.zero_le _, rfl, HB1.out, _, HO.out⟩
    case round =>
      obtain ⟨k, hk, rfl, hbk, ys, hyo⟩ := hrel
      by_cases hlt : k < 1
      · have hcx : wr.cell? ⟨b, off + k, none⟩ = some (.int .u8 (zs.getD k 0)) := (hbk.cell (by exact hblk)).trans (HC.out k hlt)
        have hyl : ys.length = 1 := by simpa using hyo.1
        obtain ⟨yk, hcy⟩ : ∃ y, wr.cell? ⟨w.heap.size, k, none⟩ = some y := ⟨ys[k]'(by omega), by rw [hyo.cellAt k (by omega)]; simp⟩
        have hfy : wr.frozen? ⟨w.heap.size, k, none⟩ = false := hyo.frozenAt k
        have HT : Hid (Below w.heap.size w (wr.setCell ⟨w.heap.size, k, none⟩ (.int .u8 (zs.getD k 0))) ∧ (wr.setCell ⟨w.heap.size, k, none⟩ (.int .u8 (zs.getD k 0))).ownsRow w.heap.size 5 1 (.slice (some ⟨w.heap.size, 0, none⟩) 1 1) 1 (ys.set k (.int .u8 (zs.getD k 0)))) := ⟨hbk.setCell (Nat.le_refl _) _, (hyo.stored k _).1⟩
        clear hbk hyo hyl
        go_wp2
        go_roundw
        case rel => exact ⟨k + 1, hlt, by go_num, HT.out.1, _, HT.out.2⟩
        case measure => simp [intOf]; omega
      · have HB : Hid (Below w.heap.size w wr ∧ wr.ownsRow w.heap.size 5 1 (.slice (some ⟨w.heap.size, 0, none⟩) 1 1) 1 ys) := ⟨hbk, hyo⟩
        clear hbk hyo
        go_wp2_with fail
        refine (zput_any w.heap.size w.heap.size 1 ys x _ HB.out.2 hn1 hn9 hx0 hx1).mono ?_
        rintro e w2 ⟨rfl, hg2, hh2⟩
        have HB2 : Hid (Below w.heap.size w w2 ∧ Holds w2 w.heap.size w.heap.size 1 x) := ⟨HB.out.1.grown hg2 HB.out.1.size (fun k hk => by cases hk; exact Nat.le_refl _), hh2⟩
        clear hg2 hh2 HB
        go_wp2_with fail
        refine (decode_any w.heap.size 1 x _ hn1 hn9 hx0 hx1 (fun _ => hx) (.inr rfl) (fun j hj => HB2.out.2.cell j hj)).mono ?_
        rintro e w3 ⟨rfl, rfl⟩
        go_wp2
        go_ret
        exact ⟨rfl, HB2.out.1⟩
  · rintro ⟨h1, h2, h3⟩
    have hq1 : ((n : Int) == 1) = false := by simp; omega
    clear hcase
    go_enter Try.func3, Try.ntmps3
    go_wp2_with (first | (go_at_call 5; refine (bytes_any _ _ _ _ _ (by omega)).mono ?_; rintro e w' ⟨rfl, rfl⟩; rw [hd]) | (at_make; refine wpList_make_full _ rfl _ _ 22 rfl w.heap.size 5 i0 (.int .u8 0) 1 Try.underlying22 HI.out.1 HI.out.2.1 HI.out.2.2.1 _ _ _ _ n rfl rfl (by omega) (by omega) (by rw [HI.out.2.2.2]; omega) (by unfold maxLen; omega) (Nat.le_refl _) ?_))
    intro w1 hown hgrow
    have HB1 : Hid (Below w.heap.size w w1) := (Below.refl _ _).grown hgrow (Nat.le_refl _) (fun k hk => by cases hk)
    have HO : Hid (w1.ownsRow w.heap.size 5 1 (.slice (some ⟨w.heap.size, 0, none⟩) n n) n (madeCells #[.int .u8 0] n).toList) := hown
    clear hgrow hown
    go_wp2
    go_loopw [7] (fun i wr => ∃ k : Nat, k ≤ n ∧ i = .int .i64 k ∧ Below w.heap.size w wr ∧ ∃ ys, wr.ownsRow w.heap.size 5 1 (.slice (some ⟨w.heap.size, 0, none⟩) n n) n ys) (fun i _ => n - (intOf i).toNat)
    case atStart => exact ⟨0, Nat.zero_le _, rfl, HB1.out, _, HO.out⟩
    case round =>
      obtain ⟨k, hk, rfl, hbk, ys, hyo⟩ := hrel
      by_cases hlt : k < n
      · have hcx : wr.cell? ⟨b, off + k, none⟩ = some (.int .u8 (zs.getD k 0)) := (hbk.cell (by exact hblk)).trans (HC.out k hlt)
        have hyl : ys.length = n := by simpa using hyo.1
        obtain ⟨yk, hcy⟩ : ∃ y, wr.cell? ⟨w.heap.size, k, none⟩ = some y := ⟨ys[k]'(by omega), by rw [hyo.cellAt k (by omega)]; simp⟩
        have hfy : wr.frozen? ⟨w.heap.size, k, none⟩ = false := hyo.frozenAt k
        have HT : Hid (Below w.heap.size w (wr.setCell ⟨w.heap.size, k, none⟩ (.int .u8 (zs.getD k 0))) ∧ (wr.setCell ⟨w.heap.size, k, none⟩ (.int .u8 (zs.getD k 0))).ownsRow w.heap.size 5 1 (.slice (some ⟨w.heap.size, 0, none⟩) n n) n (ys.set k (.int .u8 (zs.getD k 0)))) := ⟨hbk.setCell (Nat.le_refl _) _, (hyo.stored k _).1⟩
        clear hbk hyo hyl
        go_wp2
        go_roundw
        case rel => exact ⟨k + 1, hlt, by go_num, HT.out.1, _, HT.out.2⟩
        case measure => simp [intOf]; omega
      · have HB : Hid (Below w.heap.size w wr ∧ wr.ownsRow w.heap.size 5 1 (.slice (some ⟨w.heap.size, 0, none⟩) n n) n ys) := ⟨hbk, hyo⟩
        clear hbk hyo
        go_wp2_with fail
        refine (zput_any w.heap.size w.heap.size n ys x _ HB.out.2 hn1 hn9 hx0 hx1).mono ?_
        rintro e w2 ⟨rfl, hg2, hh2⟩
        have HB2 : Hid (Below w.heap.size w w2 ∧ Holds w2 w.heap.size w.heap.size n x) := ⟨HB.out.1.grown hg2 HB.out.1.size (fun k hk => by cases hk; exact Nat.le_refl _), hh2⟩
        clear hg2 hh2 HB
        go_wp2_with fail
        refine (decode_any w.heap.size n x _ hn1 hn9 hx0 hx1 HD.out.1 HD.out.2 (fun j hj => HB2.out.2.cell j hj)).mono ?_
        rintro e w3 ⟨rfl, rfl⟩
        go_wp2
        go_ret
        exact ⟨rfl, HB2.out.1⟩
  · rintro h9
    have hq1 : ((n : Int) == 1) = false := by simp; omega
    clear hcase
    go_enter Try.func3, Try.ntmps3
    go_wp2_with (first | (go_at_call 5; refine (bytes_any _ _ _ _ _ (by omega)).mono ?_; rintro e w' ⟨rfl, rfl⟩; rw [hd]) | (at_make; refine wpList_make_full _ rfl _ _ 22 rfl w.heap.size 5 i0 (.int .u8 0) 1 Try.underlying22 HI.out.1 HI.out.2.1 HI.out.2.2.1 _ _ _ _ n rfl rfl (by omega) (by omega) (by rw [HI.out.2.2.2]; omega) (by unfold maxLen; omega) (Nat.le_refl _) ?_))
    intro w1 hown hgrow
    have HB1 : Hid (Below w.heap.size w w1) := (Below.refl _ _).grown hgrow (Nat.le_refl _) (fun k hk => by cases hk)
    have HO : Hid (w1.ownsRow w.heap.size 5 1 (.slice (some ⟨w.heap.size, 0, none⟩) n n) n (madeCells #[.int .u8 0] n).toList) := hown
    clear hgrow hown
    go_wp2
    go_loopw [7] (fun i wr => ∃ k : Nat, k ≤ n ∧ i = .int .i64 k ∧ Below w.heap.size w wr ∧ ∃ ys, wr.ownsRow w.heap.size 5 1 (.slice (some ⟨w.heap.size, 0, none⟩) n n) n ys) (fun i _ => n - (intOf i).toNat)
    case atStart => exact ⟨0, Nat.zero_le _, rfl, HB1.out, _, HO.out⟩
    case round =>
      obtain ⟨k, hk, rfl, hbk, ys, hyo⟩ := hrel
      by_cases hlt : k < n
      · have hcx : wr.cell? ⟨b, off + k, none⟩ = some (.int .u8 (zs.getD k 0)) := (hbk.cell (by exact hblk)).trans (HC.out k hlt)
        have hyl : ys.length = n := by simpa using hyo.1
        obtain ⟨yk, hcy⟩ : ∃ y, wr.cell? ⟨w.heap.size, k, none⟩ = some y := ⟨ys[k]'(by omega), by rw [hyo.cellAt k (by omega)]; simp⟩
        have hfy : wr.frozen? ⟨w.heap.size, k, none⟩ = false := hyo.frozenAt k
        have HT : Hid (Below w.heap.size w (wr.setCell ⟨w.heap.size, k, none⟩ (.int .u8 (zs.getD k 0))) ∧ (wr.setCell ⟨w.heap.size, k, none⟩ (.int .u8 (zs.getD k 0))).ownsRow w.heap.size 5 1 (.slice (some ⟨w.heap.size, 0, none⟩) n n) n (ys.set k (.int .u8 (zs.getD k 0)))) := ⟨hbk.setCell (Nat.le_refl _) _, (hyo.stored k _).1⟩
        clear hbk hyo hyl
        go_wp2
        go_roundw
        case rel => exact ⟨k + 1, hlt, by go_num, HT.out.1, _, HT.out.2⟩
        case measure => simp [intOf]; omega
      · have HB : Hid (Below w.heap.size w wr ∧ wr.ownsRow w.heap.size 5 1 (.slice (some ⟨w.heap.size, 0, none⟩) n n) n ys) := ⟨hbk, hyo⟩
        clear hbk hyo
        go_wp2_with fail
        refine (zput_any w.heap.size w.heap.size n ys x _ HB.out.2 hn1 hn9 hx0 hx1).mono ?_
        rintro e w2 ⟨rfl, hg2, hh2⟩
        have HB2 : Hid (Below w.heap.size w w2 ∧ Holds w2 w.heap.size w.heap.size n x) := ⟨HB.out.1.grown hg2 HB.out.1.size (fun k hk => by cases hk; exact Nat.le_refl _), hh2⟩
        clear hg2 hh2 HB
        go_wp2_with fail
        refine (decode_any w.heap.size n x _ hn1 hn9 hx0 hx1 HD.out.1 HD.out.2 (fun j hj => HB2.out.2.cell j hj)).mono ?_
        rintro e w3 ⟨rfl, rfl⟩
        go_wp2
        go_ret
        exact ⟨rfl, HB2.out.1⟩

set_option maxHeartbeats 1000000 in
/-- The law's own guards: it answers true at once. -/
theorem walk_out (a : Option Addr) (n cap : Nat) (x : Int) (w : World) (hm : n ≤ 9223372036854775807) (hx0 : 0 ≤ x) (hx1 : x ≤ 18446744073709551615)
    (h : ¬ ((n = 1 ∧ x < 248) ∨ (2 ≤ n ∧ n ≤ 8 ∧ x / 2 ^ (8 * (n - 1)) = 0) ∨ n = 9)) :
    Calls Try.prog 3 #[.slice a n cap, .int .u64 x] w fun e w' => e = .returned (.bool true) ∧ w = w' := by
  by_cases hle : n ≤ 1048576
  · have hd : decide (n ≤ 1048576) = true := by simpa using hle
    by_cases h9 : n < 1 ∨ 9 < n
    · clear h
      rcases h9 with h9 | h9
      · obtain rfl : n = 0 := by omega
        go_enter Try.func3, Try.ntmps3
        go_wp2_with (go_at_call 5; refine (bytes_any _ _ _ _ _ (by omega)).mono ?_; rintro e w' ⟨rfl, rfl⟩; rw [hd])
        go_ret
        exact ⟨rfl, rfl⟩
      · go_enter Try.func3, Try.ntmps3
        go_wp2_with (go_at_call 5; refine (bytes_any _ _ _ _ _ (by omega)).mono ?_; rintro e w' ⟨rfl, rfl⟩; rw [hd])
        go_ret
        exact ⟨rfl, rfl⟩
    · by_cases hone : n = 1
      · subst hone
        have hx : 248 ≤ x := by omega
        clear h
        go_enter Try.func3, Try.ntmps3
        go_wp2_with (go_at_call 5; refine (bytes_any _ _ _ _ _ (by omega)).mono ?_; rintro e w' ⟨rfl, rfl⟩; rw [hd])
        go_ret
        exact ⟨rfl, rfl⟩
      · have h1 : 2 ≤ n := by omega
        have h2 : n ≤ 8 := by omega
        have hq1 : ((n : Int) == 1) = false := by simp; omega
        have h3 : (x / 2 ^ (8 * (n - 1)) != 0) = true := by
          by_cases e : x / 2 ^ (8 * (n - 1)) = 0
          · exact absurd (.inr (.inl ⟨h1, h2, e⟩)) h
          · simpa using e
        clear h h9 hone
        go_enter Try.func3, Try.ntmps3
        go_wp2_with (go_at_call 5; refine (bytes_any _ _ _ _ _ (by omega)).mono ?_; rintro e w' ⟨rfl, rfl⟩; rw [hd])
        go_ret
        exact ⟨rfl, rfl⟩
  · have hd : decide (n ≤ 1048576) = false := by simpa using hle
    clear h
    go_enter Try.func3, Try.ntmps3
    go_wp2_with (go_at_call 5; refine (bytes_any _ _ _ _ _ (by omega)).mono ?_; rintro e w' ⟨rfl, rfl⟩; rw [hd])
    go_ret
    exact ⟨rfl, rfl⟩

theorem walk (a0 : Option Addr) (len0 cap0 : Nat) (z0 : List Int) (a1 : Int) (w : World) (w0 : IsRow .u8 w a0 len0 cap0 z0) (w1 : (Lit.int .u64 a1).wf = true) :
    Calls Try.prog 3 #[.slice a0 len0 cap0, .int .u64 a1] w fun e w' => e = .returned (.bool true) ∧ Below w.heap.size w w' := by
  have hb := bounds_u64 w1
  have hm : len0 ≤ 9223372036854775807 := by
    rcases w0 with ⟨_, rfl, _, _⟩ | ⟨x, _, h1, h2, _⟩
    · omega
    · unfold maxLen at h2; omega
  by_cases h : (len0 = 1 ∧ a1 < 248) ∨ (2 ≤ len0 ∧ len0 ≤ 8 ∧ a1 / 2 ^ (8 * (len0 - 1)) = 0) ∨ len0 = 9
  · rcases w0 with ⟨_, rfl, _, _⟩ | ⟨x, rfl, h1, h2, h3, hcell, _⟩
    · omega
    · obtain ⟨b, off, rfl, hc⟩ := ints_at hcell (by omega)
      exact walk_main b off len0 cap0 z0 a1 w (by omega) (by omega) (by omega) (by omega) h (fun j hj => hc j (by omega))
  · refine (walk_out a0 len0 cap0 a1 w hm (by omega) (by omega) h).mono ?_
    rintro e w' ⟨rfl, rfl⟩
    exact ⟨rfl, Below.refl _ _⟩

/-! ### THE ROW's STEP -/
set_option maxRecDepth 100000 in
theorem lifted (os : Os) (started : os.Started) (H : Type) (enc : TypeId × Value → H) :
    ReturnsInHanded {} Try.checked os 3 .any (Rows.fnPutVarU64DecodesBackSpec.pre6 enc Try.prog Try.f3 Rows.fnPutVarU64DecodesBackRow.domain false) (Rows.fnPutVarU64DecodesBackSpec.post enc Try.prog Try.f3 false true false false) := by
  refine returnsInHanded_of_change (C := Try.checked) own started (by kernel_rfl) Try.func3
    (ChangeSpec.witness6 (enc := enc) (C := Try.checked) false ⟨#[], #[.slice none 0 0, .int .u64 0], []⟩ 8 (by kernel_rfl) (by kernel_rfl) (by kernel_rfl) (by kernel_rfl)) ?_
  intro W base args ds gs before hval0 hW hcnd _
  have hval : ∀ (j : Nat) t v, Try.f3.params[j]? = some t → args[j]? = some v → Value.okWide Try.prog W .any base t v := hval0
  have hW' := hW
  obtain ⟨p, q, hA0, hV, rfl, hfz, hnd⟩ := hW
  have hA : DataW.TrodAll enc Try.prog W 0 (fun _ => true) true Try.f3.params.toList args.toList ds p := hA0
  rw [Try.params3] at hA hval
  obtain ⟨v0, vs0, d0, ds0, p0, q0, hargs, rfl, rfl, h0, r0⟩ := trodAll_cons hA
  obtain ⟨v1, vs1, d1, ds1, p1, q1, rfl, rfl, rfl, h1, r1⟩ := trodAll_cons r0
  obtain ⟨rfl, rfl, rfl⟩ := trodAll_nil r1
  obtain rfl : args = #[v0, v1] := by cases args; simp_all
  obtain ⟨rfl, rfl⟩ := trodVars_none hV
  obtain ⟨a0, len0, cap0, rfl⟩ := okWide_slice Try.underlying22 (hval 0 22 v0 rfl rfl)
  have k0 := h0
  have lt0 : ∀ x ∈ p0, x.block < W.heap.size := by obtain ⟨m, hm⟩ := k0; exact DataW.trod_lt m _ _ _ hm
  obtain ⟨z0, w0⟩ : ∃ zs, IsRow .u8 W a0 len0 cap0 zs := by
    obtain ⟨fuel, hf⟩ := h0
    rcases open_ints Try.underlying22 Try.underlying5 (by kernel_rfl) hf with ⟨hcs, _⟩ | ⟨x, l, c, zs, hcs, _, hl, hm, hz, _, hcell, hwz⟩
    · simp [Value.cells] at hcs
      obtain ⟨rfl, rfl, rfl⟩ := hcs
      exact ⟨[], .inl ⟨rfl, rfl, rfl, rfl⟩⟩
    · simp [Value.cells] at hcs
      obtain ⟨rfl, rfl, rfl⟩ := hcs
      exact ⟨zs, .inr ⟨_, rfl, hl, hm, by simpa using hz, hcell, hwz⟩⟩
  obtain ⟨a1, rfl, rfl, rfl, w1⟩ := open_int Try.underlying23 (hval 1 23 v1 rfl rfl) h1
  clear hA0 hval0
  refine (walk a0 len0 cap0 z0 a1 W w0 w1).mono fun e W' ⟨he, bel⟩ => ?_
  subst he
  exact ⟨_, rfl, _, _, _, [], _, [], hW', trodAll_mk1 (shut_bool Try.underlying4 _), (trodAll_cons_mk (Below.trod laidOut (by kernel_rfl) (of_decide_eq_true (by kernel_rfl)) k0 bel lt0) (trodAll_cons_mk (shut_int Try.underlying23 w1) trodAll_mk0)), rfl, bel.frame _, fun h => by cases h⟩

theorem over : Rows.fnPutVarU64DecodesBackRow.holds Try.pinned (OpenSpec.ofChange Rows.fnPutVarU64DecodesBackSpec) :=
  OpenClaim.holds_of_wide 3 Try.f3 rfl rfl rfl rfl rfl rfl rfl ⟨rfl, rfl, rfl, rfl, rfl⟩ rfl rfl rfl rfl rfl (by kernel_rfl) Try.func3 (by kernel_rfl)
    (of_decide_eq_true (by kernel_rfl)) (by unfold Func.isWrapper; first | (rw [if_pos (by decide +kernel)]; kernel_rfl) | (rw [if_neg (by decide +kernel)]; exact ⟨rfl, rfl⟩))
    (fun os started H enc _ => lifted os started H enc)

/-- ████ THE STATEMENT ████ -/
theorem proved : Rows.FnPutVarU64DecodesBackSaid := over
#print axioms proved
end Go.Proofs.Qxb6630282a.fnPutVarU64DecodesBack
