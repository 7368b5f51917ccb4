/-
  The walks: uvarintLen and ZZuvarintLen at this program.
-/
import Derived.Test.Qxb6613213aRows
import Derived.Test.Qxb6613213aPlain
import Derived.Test.Qxb6613213aLen
import Derived.WalkKit
namespace Go.Proofs.Qxb6613213a
open Go.RowKit

theorem ret_int {k : IntKind} {a b : Int} (h : a = b) : Ending.returned (.int k a) = .returned (.int k b) := by rw [h]

/-- uvarintLen gives the plain function. -/
theorem uvarintLen_any (v : Nat) (w : World) (h1 : v < 18446744073709551616) :
    Calls Try.prog 11 #[.int .u64 v] w fun e w' => e = .returned (.int .i64 (Plain.ul v)) ∧ w' = w := by
  have hb : bits .or .u64 (v : Int) 1 = ((v ||| 1 : Nat) : Int) := u64_or_nat v 1 h1 (by decide)
  have hlt := Plain.or1_lt v h1
  have hl := Lib.bitLen_le (v ||| 1) 64 (Nat.le_refl _) hlt
  have Hu : Hid (Plain.ul v = (Lib.bitLen (v ||| 1) + 6) / 7) := rfl
  go_enter Try.func11, Try.ntmps11
  go_wp2_with (go_at_call 13; refine (len64_any _ _ (by omega) (by omega)).mono ?_; rintro e w' ⟨rfl, rfl⟩)
  go_ret
  exact ⟨ret_int (by rw [Hu.out]; simp), rfl⟩

/-- ZZuvarintLen hands it on. -/
theorem zz_any (v : Nat) (w : World) (h1 : v < 18446744073709551616) :
    Calls Try.prog 7 #[.int .u64 v] w fun e w' => e = .returned (.int .i64 (Plain.ul v)) ∧ w' = w := by
  go_enter Try.func7, Try.ntmps7
  go_wp2_with (go_at_call 11; refine (uvarintLen_any v _ h1).mono ?_; rintro e w' ⟨rfl, rfl⟩)
  go_ret
  exact ⟨rfl, rfl⟩

/-- The same over Int. -/
theorem zz_int (v : Int) (w : World) (h0 : 0 ≤ v) (h1 : v ≤ 18446744073709551615) :
    Calls Try.prog 7 #[.int .u64 v] w fun e w' => e = .returned (.int .i64 (Plain.ul v.toNat)) ∧ w' = w := by
  obtain ⟨n, rfl⟩ := Int.eq_ofNat_of_zero_le h0
  exact zz_any n w (by omega)
end Go.Proofs.Qxb6613213a
