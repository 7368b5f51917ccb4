/-
  The plain law: how many bytes a uvarint takes, by the length in bits. No Go in sight.
-/
import Derived.Lib.BitFns
import Derived.Lib.ItoaNum
namespace Go.Proofs.Qxb6613213a.Plain
open Go.Lib

theorem bounds (x : Nat) (h : x < 2 ^ 64) (h0 : x ≠ 0) : 1 ≤ bitLen x ∧ 2 ^ (bitLen x - 1) ≤ x ∧ x < 2 ^ bitLen x := bitLenAux_bounds 64 x h h0

/-- The bytes that the number n takes. -/
def ul (n : Nat) : Nat := (bitLen (n ||| 1) + 6) / 7

theorem or1_ne (n : Nat) : n ||| 1 ≠ 0 := by
  have := @Nat.right_le_or n 1
  omega

theorem or1_lt (n : Nat) (h : n < 2 ^ 64) : n ||| 1 < 2 ^ 64 := Nat.or_lt_two_pow h (by decide)

theorem mono (x y : Nat) (hy : y < 2 ^ 64) (h0 : y ≠ 0) (h : x ≤ y) : bitLen x ≤ bitLen y := by
  obtain ⟨_, _, c⟩ := bounds y hy h0
  exact bitLen_le x _ (bitLen_le y 64 (Nat.le_refl _) hy) (Nat.lt_of_le_of_lt h c)

/-- The length in bits of an 'or' is the greater of the two. -/
theorem bitLen_or (a b : Nat) (ha : a < 2 ^ 64) (hb : b < 2 ^ 64) : bitLen ((a ||| b) ||| 1) = max (bitLen (a ||| 1)) (bitLen (b ||| 1)) := by
  have hab : a ||| b < 2 ^ 64 := Nat.or_lt_two_pow ha hb
  have e : (a ||| b) ||| 1 = (a ||| 1) ||| (b ||| 1) := by
    apply Nat.eq_of_testBit_eq
    intro i
    simp only [Nat.testBit_or]
    cases a.testBit i <;> cases b.testBit i <;> cases Nat.testBit 1 i <;> rfl
  apply Nat.le_antisymm
  · rw [e]
    obtain ⟨_, _, ca⟩ := bounds _ (or1_lt a ha) (or1_ne a)
    obtain ⟨_, _, cb⟩ := bounds _ (or1_lt b hb) (or1_ne b)
    have la := bitLen_le _ 64 (Nat.le_refl _) (or1_lt a ha)
    have lb := bitLen_le _ 64 (Nat.le_refl _) (or1_lt b hb)
    refine bitLen_le _ _ (by omega) (Nat.or_lt_two_pow ?_ ?_)
    · exact Nat.lt_of_lt_of_le ca (Nat.pow_le_pow_right (by decide) (by omega))
    · exact Nat.lt_of_lt_of_le cb (Nat.pow_le_pow_right (by decide) (by omega))
  · have h1 := mono (a ||| 1) ((a ||| b) ||| 1) (or1_lt _ hab) (or1_ne _) (by rw [e]; exact Nat.left_le_or)
    have h2 := mono (b ||| 1) ((a ||| b) ||| 1) (or1_lt _ hab) (or1_ne _) (by rw [e]; exact Nat.right_le_or)
    omega

theorem ul_or (a b : Nat) (ha : a < 2 ^ 64) (hb : b < 2 ^ 64) : ul (a ||| b) = max (ul a) (ul b) := by
  unfold ul
  rw [bitLen_or a b ha hb]
  omega

theorem ul_range (a : Nat) (ha : a < 2 ^ 64) : 1 ≤ ul a ∧ ul a ≤ 10 := by
  unfold ul
  obtain ⟨h1, _, _⟩ := bounds _ (or1_lt a ha) (or1_ne a)
  have la := bitLen_le _ 64 (Nat.le_refl _) (or1_lt a ha)
  omega

theorem ul_ten (a : Nat) (ha : a < 2 ^ 64) : ul a = 10 ↔ 9223372036854775808 ≤ a := by
  unfold ul
  obtain ⟨h1, h2, h3⟩ := bounds _ (or1_lt a ha) (or1_ne a)
  have la := bitLen_le _ 64 (Nat.le_refl _) (or1_lt a ha)
  constructor
  · intro h
    have e : bitLen (a ||| 1) = 64 := by omega
    rw [e] at h2
    refine Decidable.byContradiction fun hn => ?_
    have : a ||| 1 < 2 ^ 63 := Nat.or_lt_two_pow (by omega) (by decide)
    have : 2 ^ (64 - 1) = 2 ^ 63 := by decide
    omega
  · intro h
    have hle : a ≤ a ||| 1 := Nat.left_le_or
    by_cases e : bitLen (a ||| 1) = 64
    · rw [e]
    · exfalso
      have : 2 ^ bitLen (a ||| 1) ≤ 2 ^ 63 := Nat.pow_le_pow_right (by decide) (by omega)
      have : (2 : Nat) ^ 63 = 9223372036854775808 := by decide
      omega

theorem ul_small (v : Nat) (h : v < 128) : ul v = 1 := by
  unfold ul
  have hv : v < 2 ^ 64 := Nat.lt_of_lt_of_le h (by decide)
  obtain ⟨h1, _, _⟩ := bounds _ (or1_lt v hv) (or1_ne v)
  have l7 := bitLen_le (v ||| 1) 7 (by decide) (Nat.or_lt_two_pow h (by decide))
  omega

theorem or1_shift (v : Nat) : (v ||| 1) / 2 ^ 7 = v / 2 ^ 7 := by
  rw [← Nat.shiftRight_eq_div_pow, ← Nat.shiftRight_eq_div_pow, Nat.shiftRight_or_distrib]
  simp

theorem bitLen_or1 (x : Nat) (h : x < 2 ^ 64) (h0 : x ≠ 0) : bitLen (x ||| 1) = bitLen x := by
  obtain ⟨h1, h2, h3⟩ := bounds x h h0
  apply Nat.le_antisymm
  · exact bitLen_le _ _ (bitLen_le x 64 (Nat.le_refl _) h) (Nat.or_lt_two_pow h3 (Nat.one_lt_two_pow (by omega)))
  · exact mono _ _ (or1_lt x h) (or1_ne x) Nat.left_le_or

theorem ul_step (v : Nat) (h : 128 ≤ v) (hv : v < 2 ^ 64) : ul v = ul (v / 128) + 1 := by
  unfold ul
  have hle : v ≤ v ||| 1 := Nat.left_le_or
  rw [bitLen_shift 7 (v ||| 1) (Nat.le_trans h hle) (or1_lt v hv), or1_shift, show 2 ^ 7 = 128 from rfl, bitLen_or1 (v / 128) (by omega) (by omega)]
  omega
end Go.Proofs.Qxb6613213a.Plain
