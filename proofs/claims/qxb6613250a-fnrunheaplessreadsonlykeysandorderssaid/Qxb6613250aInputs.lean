/-
  The inputs as they come: what a row's opening tells of them; and what they are where the guards let them by.
-/
import Derived.Test.Qxb6613250aTwo
namespace Go.Proofs.Qxb6613250a
open Go.RowKit Go.Deep

/-- What is known of the five arguments. -/
structure Inputs (w : World) (ao ko oo : Option Addr) (n kn on : Nat) (A : Nat → Option Addr) (L C : Nat → Nat) (Z : Nat → Nat → Int) (K O : Nat → Int) : Prop where
  n63 : n ≤ 9223372036854775807
  kn63 : kn ≤ 9223372036854775807
  on63 : on ≤ 9223372036854775807
  lines : ∀ r, r < n → ∃ a, ao = some a ∧ w.cell? (a.add r) = some (.slice (A r) (L r) (C r))
  keys : ∀ r, r < kn → ∃ a, ko = some a ∧ w.cell? (a.add r) = some (.int .i64 (K r))
  orders : ∀ r, r < on → ∃ a, oo = some a ∧ w.cell? (a.add r) = some (.int .i64 (O r))
  lens : ∀ r, r < n → L r ≤ 9223372036854775807
  nil : ∀ r, r < n → A r = none → L r = 0 ∧ C r = 0
  bytes : ∀ r, r < n → ∀ a, A r = some a → ∀ k, k < L r → w.cell? (a.add k) = some (.int .u8 (Z r k))
  cap : ∀ r, r < n → L r ≤ C r
  range : ∀ r, r < n → ∀ k, k < L r → 0 ≤ Z r k ∧ Z r k ≤ 255

/-- Where the guards let them by: three slices of n elements, none nil; two places among them. -/
theorem Inputs.fit {w : World} {ao ko oo : Option Addr} {n kn on : Nat} {A : Nat → Option Addr} {L C : Nat → Nat} {Z : Nat → Nat → Int} {K O : Nat → Int} {i j : Int} (h : Inputs w ao ko oo n kn on A L C Z K O) (hF : Fit n kn on i j L K) :
    ∃ (la ka oa : Addr) (i' j' : Nat), ao = some la ∧ ko = some ka ∧ oo = some oa ∧ kn = n ∧ on = n ∧ i = (i' : Int) ∧ j = (j' : Int) ∧ i' < n ∧ j' < n ∧ n ≤ 65536 ∧ (∀ r, r < n → (K r).toNat ≤ L r) ∧ Given w n la ka oa A L C Z (fun r => ((K r).toNat : Int)) O := by
  obtain ⟨hs, hk, ho, hi0, hi1, hj0, hj1, he⟩ := hF
  subst hk ho
  obtain ⟨i', rfl⟩ := Int.eq_ofNat_of_zero_le hi0
  obtain ⟨j', rfl⟩ := Int.eq_ofNat_of_zero_le hj0
  obtain ⟨la, rfl, _⟩ := h.lines 0 (by omega)
  obtain ⟨ka, rfl, _⟩ := h.keys 0 (by omega)
  obtain ⟨oa, rfl, _⟩ := h.orders 0 (by omega)
  refine ⟨la, ka, oa, i', j', rfl, rfl, rfl, rfl, rfl, rfl, rfl, by omega, by omega, hs, fun r hr => by have := he r hr; omega, ⟨fun r hr => ?_, fun r hr => ?_, fun r hr => ?_, h.nil, h.bytes, h.cap⟩⟩
  · obtain ⟨a, e, hc⟩ := h.lines r hr
    cases e
    exact hc
  · obtain ⟨a, e, hc⟩ := h.keys r hr
    cases e
    rw [hc, Int.toNat_of_nonneg (he r hr).1]
  · obtain ⟨a, e, hc⟩ := h.orders r hr
    cases e
    exact hc
end Go.Proofs.Qxb6613250a
