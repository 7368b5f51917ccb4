/-
  The plain law: the join of words. No program in sight.
-/
namespace Go.Proofs.Qxb6614055a

/-- The join of the first k words. -/
def orF (x : Nat → Nat) : Nat → Nat
  | 0 => 0
  | k + 1 => orF x k ||| x k

theorem orF_lt {x : Nat → Nat} {n : Nat} (hx : ∀ k, k < n → x k < 4294967296) : ∀ k, k ≤ n → orF x k < 4294967296
  | 0, _ => by simp [orF]
  | k + 1, h => by
    rw [orF]
    exact Nat.or_lt_two_pow (n := 32) (orF_lt hx k (by omega)) (hx k (by omega))

theorem orF_congr {x y : Nat → Nat} : ∀ {n : Nat}, (∀ k, k < n → x k = y k) → orF x n = orF y n
  | 0, _ => rfl
  | n + 1, h => by
    rw [orF, orF, orF_congr (n := n) fun k hk => h k (by omega), h n (by omega)]

/-- The join of two parts is the join of the whole. -/
theorem orF_split (x : Nat → Nat) (s : Nat) : ∀ m, orF x (s + m) = orF x s ||| orF (fun j => x (s + j)) m
  | 0 => by simp [orF]
  | m + 1 => by
    rw [show s + (m + 1) = (s + m) + 1 from rfl, orF, orF, orF_split x s m, Nat.or_assoc]

/-- Each word lies in the join. -/
theorem or_cover {a b m : Nat} (h : ∀ i, a.testBit i = true → b.testBit i = true) (hb : b < 2 ^ m) : a &&& (2 ^ m - 1 - b) = 0 := by
  apply Nat.eq_of_testBit_eq
  intro i
  rw [Nat.testBit_and, Nat.zero_testBit, show 2 ^ m - 1 - b = 2 ^ m - (b + 1) from by omega, Nat.testBit_two_pow_sub_succ hb]
  cases ha : a.testBit i with
  | false => simp
  | true => simp [h i ha]

theorem orF_bit (x : Nat → Nat) (i : Nat) : ∀ n k, k < n → (x k).testBit i = true → (orF x n).testBit i = true
  | 0, k, h, _ => absurd h (Nat.not_lt_zero _)
  | n + 1, k, h, hb => by
    rw [orF, Nat.testBit_or, Bool.or_eq_true]
    by_cases e : k = n
    · subst e
      exact Or.inr hb
    · exact Or.inl (orF_bit x i n k (by omega) hb)

theorem orF_cover {x : Nat → Nat} {n : Nat} (hx : ∀ k, k < n → x k < 4294967296) (k : Nat) (hk : k < n) : x k &&& (4294967295 - orF x n) = 0 :=
  or_cover (m := 32) (fun i h => orF_bit x i n k hk h) (orF_lt hx n (Nat.le_refl _))

/-- Where a word meets the join it meets one of the words. -/
theorem orF_meets (x : Nat → Nat) (t : Nat) : ∀ n, orF x n &&& t ≠ 0 → ∃ k, k < n ∧ x k &&& t ≠ 0
  | 0, h => by simp [orF] at h
  | n + 1, h => by
    rw [orF, Nat.and_or_distrib_right] at h
    by_cases e : x n &&& t = 0
    · rw [e, Nat.or_zero] at h
      obtain ⟨k, hk, hm⟩ := orF_meets x t n h
      exact ⟨k, by omega, hm⟩
    · exact ⟨n, by omega, e⟩

/-- The words with v put in at place i. -/
def putIn (x : Nat → Nat) (i v : Nat) (j : Nat) : Nat := if j < i then x j else if j = i then v else x (j - 1)

theorem orF_putIn (x : Nat → Nat) (i v n : Nat) (hi : i ≤ n) : orF (putIn x i v) (n + 1) = orF x n ||| v := by
  have h1 : orF (putIn x i v) i = orF x i := orF_congr fun k hk => by unfold putIn; rw [if_pos hk]
  have h2 : orF (fun j => putIn x i v (i + 1 + j)) (n - i) = orF (fun j => x (i + j)) (n - i) := orF_congr fun k hk => by
    show putIn x i v (i + 1 + k) = _
    unfold putIn
    rw [if_neg (by omega), if_neg (by omega), show i + 1 + k - 1 = i + k from by omega]
  have h3 := orF_split (putIn x i v) (i + 1) (n - i)
  have h4 := orF_split x i (n - i)
  have h5 : orF (putIn x i v) (i + 1) = orF x i ||| v := by
    rw [orF, h1, show putIn x i v i = v from by unfold putIn; rw [if_neg (by omega), if_pos rfl]]
  rw [show i + 1 + (n - i) = n + 1 from by omega, h2, h5] at h3
  rw [show i + (n - i) = n from by omega] at h4
  rw [h3, h4, Nat.or_assoc, Nat.or_assoc, Nat.or_comm v]
end Go.Proofs.Qxb6614055a
