import Derived.Test.Qxb6630335aRows
import Derived.Test.Qxb6630335aPlain
import Derived.WalkKit
import Derived.ProofKit
import Derived.Handy
import Derived.WalkSpells
import Derived.Deep.QuietTactic
import Derived.BigQuiet
import Derived.Laws.CopyOwn
namespace Go.Proofs.Qxb6630335a
open Go.ChangeShapes Go.WideShapes Go.ChangeAt Go.RowKit
set_option linter.unusedVariables false

/-- The string at place k of a list. -/
def st (ss : List ByteArray) (k : Nat) : ByteArray := ss.getD k ByteArray.empty

/-- A slice of n strings: where it has an element its cells hold the strings 'ss'. -/
def Strs (w : World) (ao : Option Addr) (n : Nat) (ss : List ByteArray) : Prop :=
  ss.length = n ∧ ∀ j, j < n → ∃ g off, ao = some ⟨g, off, none⟩ ∧ w.cell? ⟨g, off + j, none⟩ = some (.string (st ss j)) ∧ (st ss j).size ≤ maxLen

/-- A slice of m bytes, likewise. -/
def Bts (w : World) (ao : Option Addr) (m : Nat) (zs : List Int) : Prop :=
  zs.length = m ∧ Bytes zs ∧ ∀ j, j < m → ∃ g off, ao = some ⟨g, off, none⟩ ∧ w.cell? ⟨g, off + j, none⟩ = some (.int .u8 (zs.getD j 0))

theorem Strs.later {w w' : World} {ao : Option Addr} {n : Nat} {ss : List ByteArray} (h : Strs w ao n ss) (hb : Below w.heap.size w w') : Strs w' ao n ss :=
  ⟨h.1, fun j hj => by obtain ⟨g, off, h1, h2, h3⟩ := h.2 j hj; exact ⟨g, off, h1, cell_later hb h2, h3⟩⟩
theorem Bts.later {w w' : World} {ao : Option Addr} {m : Nat} {zs : List Int} (h : Bts w ao m zs) (hb : Below w.heap.size w w') : Bts w' ao m zs :=
  ⟨h.1, h.2.1, fun j hj => by obtain ⟨g, off, h1, h2⟩ := h.2.2 j hj; exact ⟨g, off, h1, cell_later hb h2⟩⟩

/-- The call hands back a bool of which P holds; the world stands. (A definition, so that the walk leaves it whole.) -/
def Says (P : Bool → Prop) (w : World) (e : Ending) (w' : World) : Prop := ∃ b : Bool, e = .returned (.bool b) ∧ P b ∧ w = w'
theorem says_mk {P : Bool → Prop} {w : World} {e : Ending} (b : Bool) (h : e = .returned (.bool b)) (hp : P b) : Says P w e w := ⟨b, h, hp, rfl⟩

set_option maxHeartbeats 2000000 in
theorem key_any (ao bo : Option Addr) (n c1 m c2 : Nat) (ss : List ByteArray) (zs : List Int) (w : World) (hn : n ≤ 4194304) (hm : m ≤ 4194304) (hs : Strs w ao n ss) (hz : Bts w bo m zs) :
    Calls Try.prog 8 #[.slice ao n c1, .slice bo m c2] w fun e w' => ∃ r : Int, e = .returned (.int .i64 r) ∧ Least (fun k => Mat (st ss k) zs) n r ∧ ∃ nd, w' = w.drewN nd := by
  have HS : Hid (Strs w ao n ss) := hs
  have HZ : Hid (Bts w bo m zs) := hz
  clear hs hz
  go_enter Try.func8, Try.ntmps8
  go_wp2
  go_loopw [10] (fun kv wr => ∃ k : Nat, k ≤ n ∧ kv = .int .i64 k ∧ (∀ j, j < k → ¬ Mat (st ss j) zs) ∧ ∃ nd, wr = w.drewN nd) (fun kv _ => n - (intOf kv).toNat)
  case atStart => exact ⟨0, by omega, rfl, fun j hj => absurd hj (by omega), 0, rfl⟩
  case round =>
    obtain ⟨k, hk, rfl, hno, nd, rfl⟩ := hrel
    have HNO : Hid (∀ j, j < k → ¬ Mat (st ss j) zs) := hno
    clear hno
    by_cases hlt : k < n
    · obtain ⟨g, off, rfl, hc, hsz⟩ := HS.out.2 k hlt
      obtain ⟨s, hse⟩ : ∃ s, s = st ss k := ⟨_, rfl⟩
      rw [← hse] at hc hsz
      have HSE : Hid (s = st ss k) := hse
      unfold maxLen at hsz
      clear hse
      by_cases hsm : s.size = m
      · have hq : ((m : Int) != (s.size : Int)) = false := by simp; omega
        have HSM : Hid (s.size = m) := hsm
        have hmlt : ∀ i, i < m → i < s.size := fun i hi => by omega
        have HMLT : Hid (∀ i, i < m → i < s.size) := hmlt
        clear hsm hmlt
        go_wp2
        clear hc
        go_loopw [7] (fun iv wr => ∃ i : Nat, i ≤ m ∧ iv = .int .i64 i ∧ (∀ j, j < i → or32 (zs.getD j 0) = sb s j) ∧ ∃ nd, wr = w.drewN nd) (fun iv _ => m - (intOf iv).toNat)
        case atStart => exact ⟨0, by omega, rfl, fun j hj => absurd hj (by omega), _, rfl⟩
        case round =>
          obtain ⟨i, hi, rfl, heq, nd2, rfl⟩ := hrel
          have HEQ : Hid (∀ j, j < i → or32 (zs.getD j 0) = sb s j) := heq
          clear heq
          by_cases hil : i < m
          · have his : i < s.size := HMLT.out i hil
            obtain ⟨g2, off2, rfl, hcz⟩ := HZ.out.2.2 i hil
            obtain ⟨c, hce⟩ : ∃ c, c = zs.getD i 0 := ⟨_, rfl⟩
            rw [← hce] at hcz
            obtain ⟨o, hoe⟩ : ∃ o, o = or32 (zs.getD i 0) := ⟨_, rfl⟩
            obtain ⟨b, hbe⟩ : ∃ b, b = sb s i := ⟨_, rfl⟩
            have hor : bits BinOp.or IntKind.u8 c 32 = o := by rw [hce, hoe]; rfl
            have hbb : (((s[i]'his).toNat : Nat) : Int) = b := by rw [sb_at, hbe]
            have HOE : Hid (o = or32 (zs.getD i 0)) := hoe
            have HBE : Hid (b = sb s i) := hbe
            clear hce hoe hbe
            by_cases hob : o = b
            · have HOB : Hid (o = b) := hob
              subst hob
              go_wp2_with fail
              go_quiet (fail)
              go_wp2
              go_roundw
              case rel =>
                refine ⟨i + 1, hil, by go_num, fun j hj => ?_, _, rfl⟩
                by_cases e : j = i
                · subst e; rw [← HOE.out, ← HBE.out]
                · exact HEQ.out j (by omega)
              case measure => simp [intOf]; omega
            · have hq2 : (o == b) = false := by simpa using hob
              have HOB : Hid (¬ o = b) := hob
              clear hob
              go_wp2_with fail
              go_quiet (fail)
              go_wp2
              go_roundw
              case rel =>
                refine ⟨k + 1, hlt, by go_num, fun j hj => ?_, _, rfl⟩
                by_cases e : j = k
                · subst e
                  intro hM
                  apply HOB.out
                  rw [HOE.out, HBE.out, HSE.out]
                  exact hM.2 i (by rw [HZ.out.1]; exact hil)
                · exact HNO.out j (by omega)
              case measure => simp [intOf]; omega
          · have hd : decide ((i : Int) < (m : Int)) = false := by simp; omega
            go_wp2_with fail
            go_quiet (fail)
            go_wp2
            go_ret
            refine ⟨k, rfl, .inr ⟨k, hlt, rfl, ?_, HNO.out⟩, _, rfl⟩
            refine ⟨by rw [← HSE.out, HSM.out]; exact HZ.out.1.symm, fun j hj => ?_⟩
            rw [← HSE.out]
            exact HEQ.out j (by have := HZ.out.1; omega)
      · have hq : ((m : Int) != (s.size : Int)) = true := by simp; omega
        have HSM : Hid (¬ s.size = m) := hsm
        clear hsm
        go_wp2
        go_roundw
        case rel =>
          refine ⟨k + 1, hlt, by go_num, fun j hj => ?_, _, rfl⟩
          by_cases e : j = k
          · subst e; intro hM; exact HSM.out (by rw [HSE.out, hM.1]; exact HZ.out.1)
          · exact HNO.out j (by omega)
        case measure => simp [intOf]; omega
    · go_wp2
      go_ret
      exact ⟨-1, rfl, .inl ⟨rfl, fun j hj => HNO.out j (by omega)⟩, _, rfl⟩

set_option maxHeartbeats 2000000 in
theorem fold_any (bo : Option Addr) (m c2 : Nat) (s : ByteArray) (zs : List Int) (w : World) (hs : s.size ≤ maxLen) (hm : m ≤ 4194304) (hz : Bts w bo m zs) :
    Calls Try.prog 13 #[.string s, .slice bo m c2] w (Says (fun b => b = true ↔ Fold s zs) w) := by
  unfold maxLen at hs
  have HZ : Hid (Bts w bo m zs) := hz
  clear hz
  by_cases hsm : s.size = m
  · have hq : ((s.size : Int) != (m : Int)) = false := by simp; omega
    have HSM : Hid (s.size = m) := hsm
    have HMLT : Hid (∀ i, i < m → i < s.size) := fun i hi => by omega
    clear hsm
    go_enter Try.func13, Try.ntmps13
    go_wp2
    go_loop [5] (fun iv => ∃ i : Nat, i ≤ m ∧ iv = .int .i64 i ∧ ∀ j, j < i → low (zs.getD j 0) = sb s j) (fun iv => m - (intOf iv).toNat)
    case atStart => exact ⟨0, by omega, rfl, fun j hj => absurd hj (by omega)⟩
    case round =>
      obtain ⟨i, hi, rfl, heq⟩ := hrel
      have HEQ : Hid (∀ j, j < i → low (zs.getD j 0) = sb s j) := heq
      clear heq
      by_cases hil : i < m
      · have his : i < s.size := HMLT.out i hil
        obtain ⟨g2, off2, rfl, hcz⟩ := HZ.out.2.2 i hil
        obtain ⟨hb0, hb1⟩ := HZ.out.2.1 i (by rw [HZ.out.1]; exact hil)
        obtain ⟨c, hce⟩ : ∃ c, c = zs.getD i 0 := ⟨_, rfl⟩
        rw [← hce] at hcz hb0 hb1
        have HCE : Hid (c = zs.getD i 0) := hce
        obtain ⟨b, hbe⟩ : ∃ b, b = sb s i := ⟨_, rfl⟩
        have hbb : (((s[i]'his).toNat : Nat) : Int) = b := by rw [sb_at, hbe]
        have HBE : Hid (b = sb s i) := hbe
        clear hce hbe
        by_cases hup : 65 ≤ c ∧ c ≤ 90
        · obtain ⟨hu1, hu2⟩ := hup
          have hlow : Hid (low (zs.getD i 0) = c + 32) := by show low _ = _; rw [← HCE.out]; simp [low, hu1, hu2]
          by_cases hob : c + 32 = b
          · have hq2 : (c + 32 != b) = false := by simpa using hob
            have HOB : Hid (c + 32 = b) := hob
            clear hob
            go_wp2
            go_round
            case rel =>
              refine ⟨i + 1, hil, by go_num, fun j hj => ?_⟩
              by_cases e : j = i
              · subst e; rw [hlow.out, HOB.out, HBE.out]
              · exact HEQ.out j (by omega)
            case measure => simp [intOf]; omega
          · have hq2 : (c + 32 != b) = true := by simpa using hob
            have HOB : Hid (¬ c + 32 = b) := hob
            clear hob
            go_wp2
            go_ret
            refine says_mk false rfl ⟨fun h => absurd h (by decide), fun hF => absurd ?_ HOB.out⟩
            rw [← hlow.out, HBE.out]; exact hF.2 i (by rw [HZ.out.1]; exact hil)
        · have hlow : Hid (low (zs.getD i 0) = c) := by show low _ = _; rw [← HCE.out]; unfold low; rw [if_neg hup]
          have hparts : c < 65 ∨ 90 < c := by omega
          clear hup
          by_cases hob : c = b
          · have HOB : Hid (c = b) := hob
            have hq2 : (c != b) = false := by simpa using hob
            clear hob
            rcases hparts with hp | hp
            all_goals
              go_wp2
              go_round
              case rel =>
                refine ⟨i + 1, hil, by go_num, fun j hj => ?_⟩
                by_cases e : j = i
                · subst e; rw [hlow.out, HOB.out, HBE.out]
                · exact HEQ.out j (by omega)
              case measure => simp [intOf]; omega
          · have hq2 : (c != b) = true := by simpa using hob
            have HOB : Hid (¬ c = b) := hob
            clear hob
            rcases hparts with hp | hp
            all_goals
              go_wp2
              go_ret
              refine says_mk false rfl ⟨fun h => absurd h (by decide), fun hF => absurd ?_ HOB.out⟩
              rw [← hlow.out, HBE.out]; exact hF.2 i (by rw [HZ.out.1]; exact hil)
      · go_wp2
        go_ret
        exact says_mk true rfl ⟨fun _ => ⟨by rw [HSM.out]; exact HZ.out.1.symm, fun j hj => HEQ.out j (by have := HZ.out.1; omega)⟩, fun _ => rfl⟩
  · have hq : ((s.size : Int) != (m : Int)) = true := by simp; omega
    have HSM : Hid (¬ s.size = m) := hsm
    clear hsm
    go_enter Try.func13, Try.ntmps13
    go_wp2
    go_ret
    exact says_mk false rfl ⟨fun h => absurd h (by decide), fun hF => absurd (hF.1.trans HZ.out.1) HSM.out⟩

set_option maxHeartbeats 2000000 in
theorem lower_any (ao : Option Addr) (n c1 : Nat) (ss : List ByteArray) (w : World) (hn : n ≤ 4194304) (hs : Strs w ao n ss) :
    Calls Try.prog 7 #[.slice ao n c1] w (Says (fun b => b = true → ∀ k, k < n → Lower (st ss k)) w) := by
  have HS : Hid (Strs w ao n ss) := hs
  clear hs
  go_enter Try.func7, Try.ntmps7
  go_wp2
  go_loop [3] (fun kv => ∃ k : Nat, k ≤ n ∧ kv = .int .i64 k ∧ ∀ j, j < k → Lower (st ss j)) (fun kv => n - (intOf kv).toNat)
  case atStart => exact ⟨0, by omega, rfl, fun j hj => absurd hj (by omega)⟩
  case round =>
    obtain ⟨k, hk, rfl, hno⟩ := hrel
    have HNO : Hid (∀ j, j < k → Lower (st ss j)) := hno
    clear hno
    by_cases hlt : k < n
    · obtain ⟨g, off, rfl, hc, hsz⟩ := HS.out.2 k hlt
      obtain ⟨s, hse⟩ : ∃ s, s = st ss k := ⟨_, rfl⟩
      rw [← hse] at hc hsz
      have HSE : Hid (s = st ss k) := hse
      unfold maxLen at hsz
      clear hse
      go_wp2
      clear hc
      go_loop [5] (fun iv => ∃ i : Nat, i ≤ s.size ∧ iv = .int .i64 i ∧ ∀ j, j < i → 97 ≤ sb s j ∧ sb s j ≤ 122) (fun iv => s.size - (intOf iv).toNat)
      case atStart => exact ⟨0, by omega, rfl, fun j hj => absurd hj (by omega)⟩
      case round =>
        obtain ⟨i, hi, rfl, heq⟩ := hrel
        have HEQ : Hid (∀ j, j < i → 97 ≤ sb s j ∧ sb s j ≤ 122) := heq
        clear heq
        by_cases his : i < s.size
        · obtain ⟨b, hbe⟩ : ∃ b, b = sb s i := ⟨_, rfl⟩
          have hbb : (((s[i]'his).toNat : Nat) : Int) = b := by rw [sb_at, hbe]
          have HBE : Hid (b = sb s i) := hbe
          have hbd := sb_bd s i
          rw [← hbe] at hbd
          clear hbe
          by_cases hl1 : b < 97
          · go_wp2
            go_ret
            exact says_mk false rfl (fun h => absurd h (by decide))
          · by_cases hl2 : 122 < b
            · go_wp2
              go_ret
              exact says_mk false rfl (fun h => absurd h (by decide))
            · go_wp2
              go_round
              case rel =>
                refine ⟨i + 1, his, by go_num, fun j hj => ?_⟩
                by_cases e : j = i
                · subst e; rw [← HBE.out]; omega
                · exact HEQ.out j (by omega)
              case measure => simp [intOf]; omega
        · go_wp2
          go_round
          case rel =>
            refine ⟨k + 1, hlt, by go_num, fun j hj => ?_⟩
            by_cases e : j = k
            · subst e; rw [← HSE.out]; exact fun i2 hi2 => HEQ.out i2 (by omega)
            · exact HNO.out j (by omega)
          case measure => simp [intOf]; omega
    · go_wp2
      go_ret
      exact says_mk true rfl (fun _ j hj => HNO.out j (by omega))
end Go.Proofs.Qxb6630335a
