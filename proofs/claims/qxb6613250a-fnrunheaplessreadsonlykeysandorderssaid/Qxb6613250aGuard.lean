/-
  The guards ahead of the laws: zzBytes_.. (twice) and runsFit.
-/
import Derived.Test.Qxb6613250aBuild
import Derived.Deep.QuietTactic
import Derived.BigQuiet
namespace Go.Proofs.Qxb6613250a
open Go.RowKit Go.Deep

/-- What the sizes are bounded by. -/
structure Small (n kn on : Nat) (L : Nat → Nat) : Prop where
  lines : n ≤ 1048576
  keys : kn ≤ 1048576
  orders : on ≤ 1048576
  lens : ∀ r, r < n → L r ≤ 1048576

/-- A call that ends in a bool, which is true only where F holds; the world is as it was. -/
def SmallPost (F : Prop) (w : World) (e : Ending) (w' : World) : Prop := ∃ b, e = .returned (.bool b) ∧ (b = true → F) ∧ w' = w

set_option maxHeartbeats 1000000 in
/-- zzBytes_FnRunHeapLessByKeyThenOrder answers something, and leaves the world as it was. -/
theorem zzbytes5 (w : World) (ao ko oo : Option Addr) (n lc kn kc on oc : Nat) (i j : Int) (A : Nat → Option Addr) (L C : Nat → Nat) (hn : n ≤ 9223372036854775807) (hkn : kn ≤ 9223372036854775807) (hon : on ≤ 9223372036854775807)
    (hl : ∀ r, r < n → ∃ a, ao = some a ∧ w.cell? (a.add r) = some (.slice (A r) (L r) (C r))) (hL : ∀ r, r < n → L r ≤ 9223372036854775807) :
    Calls Try.prog 5 #[.slice ao n lc, .slice ko kn kc, .slice oo on oc, .int .i64 i, .int .i64 j] w fun e w' => SmallPost (Small n kn on L) w e w' := by
  by_cases h1 : n ≤ 1048576
  · go_enter Try.func5, Try.ntmps5
    go_wp2
    go_loop [11, 12] (fun s t => ∃ (x : Int) (k : Nat), k ≤ n ∧ 0 ≤ x ∧ x ≤ 1048576 ∧ s = .int .i64 x ∧ t = .int .i64 k ∧ Hid (∀ r, r < k → L r ≤ 1048576)) (fun _ t => n - (intOf t).toNat)
    case atStart => exact ⟨n, 0, Nat.zero_le _, by omega, by omega, rfl, rfl, fun r hr => absurd hr (Nat.not_lt_zero _)⟩
    case round =>
      obtain ⟨x, k, hk, hx0, hx1, rfl, rfl, HP⟩ := hrel
      by_cases hlt : k < n
      · obtain ⟨a, rfl, hc⟩ := hl k hlt
        have hLk := hL k hlt
        clear hl hL
        by_cases h2 : L k ≤ 1048576
        · by_cases h3 : x + L k ≤ 1048576
          · go_wp2
            go_round
            case rel =>
              refine ⟨x + L k, k + 1, by omega, by omega, by omega, by go_num, by go_num, fun r hr => ?_⟩
              by_cases e : r = k
              · subst e; exact h2
              · exact HP.out r (by omega)
            case measure => simp [intOf]; omega
          · go_wp2
            go_ret
            exact ⟨false, rfl, (fun h => by cases h), rfl⟩
        · go_wp2
          go_ret
          exact ⟨false, rfl, (fun h => by cases h), rfl⟩
      · clear hl hL
        by_cases h2 : kn ≤ 1048576
        · by_cases h3 : x + kn ≤ 1048576
          · by_cases h4 : on ≤ 1048576
            · by_cases h5 : x + kn + on ≤ 1048576
              · go_wp2
                go_ret
                exact ⟨true, rfl, (fun _ => ⟨h1, h2, h4, fun r hr => HP.out r (by omega)⟩), rfl⟩
              · go_wp2
                go_ret
                exact ⟨false, rfl, (fun h => by cases h), rfl⟩
            · go_wp2
              go_ret
              exact ⟨false, rfl, (fun h => by cases h), rfl⟩
          · go_wp2
            go_ret
            exact ⟨false, rfl, (fun h => by cases h), rfl⟩
        · go_wp2
          go_ret
          exact ⟨false, rfl, (fun h => by cases h), rfl⟩
  · clear hl hL
    go_enter Try.func5, Try.ntmps5
    go_wp2
    go_ret
    exact ⟨false, rfl, (fun h => by cases h), rfl⟩
set_option maxHeartbeats 1000000 in
/-- zzBytes_FnRunHeapLessReadsOnlyKeysAndOrders answers something, and leaves the world as it was. -/
theorem zzbytes9 (w : World) (ao ko oo : Option Addr) (n lc kn kc on oc : Nat) (i j : Int) (A : Nat → Option Addr) (L C : Nat → Nat) (hn : n ≤ 9223372036854775807) (hkn : kn ≤ 9223372036854775807) (hon : on ≤ 9223372036854775807)
    (hl : ∀ r, r < n → ∃ a, ao = some a ∧ w.cell? (a.add r) = some (.slice (A r) (L r) (C r))) (hL : ∀ r, r < n → L r ≤ 9223372036854775807) :
    Calls Try.prog 9 #[.slice ao n lc, .slice ko kn kc, .slice oo on oc, .int .i64 i, .int .i64 j] w fun e w' => SmallPost (Small n kn on L) w e w' := by
  by_cases h1 : n ≤ 1048576
  · go_enter Try.func9, Try.ntmps9
    go_wp2
    go_loop [11, 12] (fun s t => ∃ (x : Int) (k : Nat), k ≤ n ∧ 0 ≤ x ∧ x ≤ 1048576 ∧ s = .int .i64 x ∧ t = .int .i64 k ∧ Hid (∀ r, r < k → L r ≤ 1048576)) (fun _ t => n - (intOf t).toNat)
    case atStart => exact ⟨n, 0, Nat.zero_le _, by omega, by omega, rfl, rfl, fun r hr => absurd hr (Nat.not_lt_zero _)⟩
    case round =>
      obtain ⟨x, k, hk, hx0, hx1, rfl, rfl, HP⟩ := hrel
      by_cases hlt : k < n
      · obtain ⟨a, rfl, hc⟩ := hl k hlt
        have hLk := hL k hlt
        clear hl hL
        by_cases h2 : L k ≤ 1048576
        · by_cases h3 : x + L k ≤ 1048576
          · go_wp2
            go_round
            case rel =>
              refine ⟨x + L k, k + 1, by omega, by omega, by omega, by go_num, by go_num, fun r hr => ?_⟩
              by_cases e : r = k
              · subst e; exact h2
              · exact HP.out r (by omega)
            case measure => simp [intOf]; omega
          · go_wp2
            go_ret
            exact ⟨false, rfl, (fun h => by cases h), rfl⟩
        · go_wp2
          go_ret
          exact ⟨false, rfl, (fun h => by cases h), rfl⟩
      · clear hl hL
        by_cases h2 : kn ≤ 1048576
        · by_cases h3 : x + kn ≤ 1048576
          · by_cases h4 : on ≤ 1048576
            · by_cases h5 : x + kn + on ≤ 1048576
              · go_wp2
                go_ret
                exact ⟨true, rfl, (fun _ => ⟨h1, h2, h4, fun r hr => HP.out r (by omega)⟩), rfl⟩
              · go_wp2
                go_ret
                exact ⟨false, rfl, (fun h => by cases h), rfl⟩
            · go_wp2
              go_ret
              exact ⟨false, rfl, (fun h => by cases h), rfl⟩
          · go_wp2
            go_ret
            exact ⟨false, rfl, (fun h => by cases h), rfl⟩
        · go_wp2
          go_ret
          exact ⟨false, rfl, (fun h => by cases h), rfl⟩
  · clear hl hL
    go_enter Try.func9, Try.ntmps9
    go_wp2
    go_ret
    exact ⟨false, rfl, (fun h => by cases h), rfl⟩
end Go.Proofs.Qxb6613250a
