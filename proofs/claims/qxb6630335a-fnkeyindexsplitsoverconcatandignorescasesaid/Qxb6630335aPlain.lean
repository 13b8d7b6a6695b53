/-
  The plain side: folding, matching, the least index. No walk here.
-/
import Derived.Laws.BitsAllLaws
namespace Go.Proofs.Qxb6630335a

/-- The byte at place i of a string, as a number. -/
def sb (s : ByteArray) (i : Nat) : Int := ((s.data.toList.getD i 0).toNat : Int)

theorem sb_at (s : ByteArray) (i : Nat) (h : i < s.size) : (((s[i]'h).toNat : Nat) : Int) = sb s i := by
  unfold sb
  have h' : i < s.data.toList.length := by simpa using h
  rw [List.getD_eq_getElem?_getD, List.getElem?_eq_getElem h']
  rfl

theorem sb_bd (s : ByteArray) (i : Nat) : 0 ≤ sb s i ∧ sb s i ≤ 255 := by
  unfold sb
  have := (s.data.toList.getD i 0).toNat_lt
  omega

def or32 (c : Int) : Int := bits .or .u8 c 32
def low (c : Int) : Int := if 65 ≤ c ∧ c ≤ 90 then c + 32 else c
def swp (c : Int) : Int := if 97 ≤ c ∧ c ≤ 122 then c - 32 else if 65 ≤ c ∧ c ≤ 90 then c + 32 else c

set_option maxRecDepth 100000 in
theorem or32_fin : ∀ c : Fin 256, bits BinOp.or IntKind.u8 ((c.val : Nat) : Int) 32 = if c.val / 32 % 2 = 0 then ((c.val : Nat) : Int) + 32 else ((c.val : Nat) : Int) := by decide

theorem or32_eq (c : Int) (h0 : 0 ≤ c) (h1 : c ≤ 255) : or32 c = if c / 32 % 2 = 0 then c + 32 else c := by
  obtain ⟨n, rfl⟩ := Int.eq_ofNat_of_zero_le h0
  have := or32_fin ⟨n, by omega⟩
  unfold or32
  rw [show ((n : Nat) : Int) = ((n : Nat) : Int) from rfl]
  simp only at this
  refine Eq.trans this ?_
  by_cases e : n / 32 % 2 = 0
  · rw [if_pos e, if_pos (by omega)]
  · rw [if_neg e, if_neg (by omega)]

theorem or32_low (c t : Int) (h0 : 0 ≤ c) (h1 : c ≤ 255) (t0 : 97 ≤ t) (t1 : t ≤ 122) : or32 c = t ↔ low c = t := by
  rw [or32_eq c h0 h1]; unfold low
  split <;> split <;> omega

theorem or32_swp (c t : Int) (h0 : 0 ≤ c) (h1 : c ≤ 255) (t0 : 97 ≤ t) (t1 : t ≤ 122) : or32 (swp c) = t ↔ or32 c = t := by
  have hs : 0 ≤ swp c ∧ swp c ≤ 255 := by unfold swp; split; omega; split <;> omega
  rw [or32_eq c h0 h1, or32_eq (swp c) hs.1 hs.2]
  unfold swp
  split <;> split <;> (split <;> (try split)) <;> omega

def Mat (s : ByteArray) (zs : List Int) : Prop := s.size = zs.length ∧ ∀ i, i < zs.length → or32 (zs.getD i 0) = sb s i
def Fold (s : ByteArray) (zs : List Int) : Prop := s.size = zs.length ∧ ∀ i, i < zs.length → low (zs.getD i 0) = sb s i
def Lower (s : ByteArray) : Prop := ∀ i, i < s.size → 97 ≤ sb s i ∧ sb s i ≤ 122
def Bytes (zs : List Int) : Prop := ∀ i, i < zs.length → 0 ≤ zs.getD i 0 ∧ zs.getD i 0 ≤ 255

theorem mat_fold (s : ByteArray) (zs : List Int) (hl : Lower s) (hb : Bytes zs) : Mat s zs ↔ Fold s zs := by
  constructor
  · rintro ⟨h1, h2⟩
    exact ⟨h1, fun i hi => (or32_low _ _ (hb i hi).1 (hb i hi).2 (hl i (by omega)).1 (hl i (by omega)).2).1 (h2 i hi)⟩
  · rintro ⟨h1, h2⟩
    exact ⟨h1, fun i hi => (or32_low _ _ (hb i hi).1 (hb i hi).2 (hl i (by omega)).1 (hl i (by omega)).2).2 (h2 i hi)⟩

theorem getD_map_swp (zs : List Int) (i : Nat) (h : i < zs.length) : (zs.map swp).getD i 0 = swp (zs.getD i 0) := by
  simp [List.getD, h]

theorem mat_swp (s : ByteArray) (zs : List Int) (hl : Lower s) (hb : Bytes zs) : Mat s (zs.map swp) ↔ Mat s zs := by
  constructor
  · rintro ⟨h1, h2⟩
    rw [List.length_map] at h1 h2
    refine ⟨h1, fun i hi => ?_⟩
    have := h2 i hi
    rw [getD_map_swp zs i hi] at this
    exact (or32_swp _ _ (hb i hi).1 (hb i hi).2 (hl i (by omega)).1 (hl i (by omega)).2).1 this
  · rintro ⟨h1, h2⟩
    refine ⟨by rw [List.length_map]; exact h1, fun i hi => ?_⟩
    rw [List.length_map] at hi
    rw [getD_map_swp zs i hi]
    exact (or32_swp _ _ (hb i hi).1 (hb i hi).2 (hl i (by omega)).1 (hl i (by omega)).2).2 (h2 i hi)

/-- r is the least index below n at which P holds, or -1. -/
def Least (P : Nat → Prop) (n : Nat) (r : Int) : Prop :=
  (r = -1 ∧ ∀ k, k < n → ¬ P k) ∨ ∃ k : Nat, k < n ∧ r = k ∧ P k ∧ ∀ j, j < k → ¬ P j

theorem Least.congr {P Q : Nat → Prop} {n : Nat} {r : Int} (h : Least P n r) (e : ∀ k, k < n → (P k ↔ Q k)) : Least Q n r := by
  rcases h with ⟨h1, h2⟩ | ⟨k, h1, h2, h3, h4⟩
  · exact .inl ⟨h1, fun k hk hq => h2 k hk ((e k hk).2 hq)⟩
  · exact .inr ⟨k, h1, h2, (e k h1).1 h3, fun j hj hq => h4 j hj ((e j (by omega)).2 hq)⟩

theorem Least.unique {P : Nat → Prop} {n : Nat} {r r' : Int} (h : Least P n r) (h' : Least P n r') : r = r' := by
  rcases h with ⟨h1, h2⟩ | ⟨k, h1, h2, h3, h4⟩
  · rcases h' with ⟨g1, g2⟩ | ⟨k', g1, g2, g3, g4⟩
    · omega
    · exact absurd g3 (h2 k' g1)
  · rcases h' with ⟨g1, g2⟩ | ⟨k', g1, g2, g3, g4⟩
    · exact absurd h3 (g2 k h1)
    · rcases Nat.lt_trichotomy k k' with h | h | h
      · exact absurd h3 (g4 k h)
      · omega
      · exact absurd g3 (h4 k' h)

/-- The least index in a concatenation. -/
theorem Least.join {P A B : Nat → Prop} {na nb : Nat} {ra rb : Int} (ha : Least A na ra) (hb : Least B nb rb) (eA : ∀ k, k < na → (P k ↔ A k)) (eB : ∀ k, k < nb → (P (na + k) ↔ B k)) :
    Least P (na + nb) (if 0 ≤ ra then ra else if 0 ≤ rb then na + rb else -1) := by
  rcases ha with ⟨h1, h2⟩ | ⟨k, h1, h2, h3, h4⟩
  · rw [if_neg (by omega)]
    have hno : ∀ k, k < na → ¬ P k := fun k hk hp => h2 k hk ((eA k hk).1 hp)
    rcases hb with ⟨g1, g2⟩ | ⟨k', g1, g2, g3, g4⟩
    · rw [if_neg (by omega)]
      refine .inl ⟨rfl, fun k hk hp => ?_⟩
      rcases Nat.lt_or_ge k na with h | h
      · exact hno k h hp
      · have e : k = na + (k - na) := by omega
        rw [e] at hp
        exact g2 (k - na) (by omega) ((eB (k - na) (by omega)).1 hp)
    · rw [if_pos (by omega)]
      refine .inr ⟨na + k', by omega, by omega, (eB k' g1).2 g3, fun j hj hp => ?_⟩
      rcases Nat.lt_or_ge j na with h | h
      · exact hno j h hp
      · have e : j = na + (j - na) := by omega
        rw [e] at hp
        exact g4 (j - na) (by omega) ((eB (j - na) (by omega)).1 hp)
  · rw [if_pos (by omega)]
    exact .inr ⟨k, by omega, h2, (eA k h1).2 h3, fun j hj hp => h4 j hj ((eA j (by omega)).1 hp)⟩
end Go.Proofs.Qxb6630335a
