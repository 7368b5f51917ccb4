/-
  runsFit: what it promises where it answers true.
-/
import Derived.Test.Qxb6613250aBuild
import Derived.Deep.QuietTactic
import Derived.BigQuiet
namespace Go.Proofs.Qxb6613250a
open Go.RowKit Go.Deep

/-- What runsFit has tested. -/
structure Fit (n kn on : Nat) (i j : Int) (L : Nat → Nat) (K : Nat → Int) : Prop where
  small : n ≤ 65536
  keys : kn = n
  orders : on = n
  i0 : 0 ≤ i
  i1 : i < n
  j0 : 0 ≤ j
  j1 : j < n
  ends : ∀ r, r < n → 0 ≤ K r ∧ K r ≤ L r

/-- A call that ends in a bool, which is true only where F holds; the world has drawn, no more. -/
def FitPost (F : Prop) (w : World) (e : Ending) (w' : World) : Prop := ∃ b, e = .returned (.bool b) ∧ (b = true → F) ∧ ∃ t, w' = w.drewN t

set_option maxHeartbeats 4000000 in
theorem fit_any (w : World) (ao ko oo : Option Addr) (n lc kn kc on oc : Nat) (i j : Int) (A : Nat → Option Addr) (L C : Nat → Nat) (K : Nat → Int) (hn : n ≤ 9223372036854775807) (hkn : kn ≤ 9223372036854775807) (hon : on ≤ 9223372036854775807)
    (hl : ∀ r, r < n → ∃ a, ao = some a ∧ w.cell? (a.add r) = some (.slice (A r) (L r) (C r))) (hL : ∀ r, r < n → L r ≤ 1048576)
    (hk : ∀ r, r < kn → ∃ a, ko = some a ∧ w.cell? (a.add r) = some (.int .i64 (K r))) :
    Calls Try.prog 6 #[.slice ao n lc, .slice ko kn kc, .slice oo on oc, .int .i64 i, .int .i64 j] w fun e w' => FitPost (Fit n kn on i j L K) w e w' := by
  by_cases h1 : n ≤ 65536
  rotate_left
  · clear hl hL hk
    go_enter Try.func6, Try.ntmps6
    go_wp2
    go_ret
    exact ⟨false, rfl, (fun h => by cases h), 0, rfl⟩
  by_cases h2 : kn ≤ 65536
  rotate_left
  · clear hl hL hk
    go_enter Try.func6, Try.ntmps6
    go_wp2
    go_ret
    exact ⟨false, rfl, (fun h => by cases h), 0, rfl⟩
  by_cases h3 : on ≤ 65536
  rotate_left
  · clear hl hL hk
    go_enter Try.func6, Try.ntmps6
    go_wp2
    go_ret
    exact ⟨false, rfl, (fun h => by cases h), 0, rfl⟩
  have HL : Hid ((∀ r, r < n → ∃ a, ao = some a ∧ w.cell? (a.add r) = some (.slice (A r) (L r) (C r))) ∧ (∀ r, r < n → L r ≤ 1048576) ∧ ∀ r, r < kn → ∃ a, ko = some a ∧ w.cell? (a.add r) = some (.int .i64 (K r))) := ⟨hl, hL, hk⟩
  clear hl hL hk
  go_enter Try.func6, Try.ntmps6
  go_wp2
  go_loop [11, 12] (fun s t => ∃ (x : Int) (k : Nat), k ≤ n ∧ 0 ≤ x ∧ x ≤ 1048576 ∧ s = .int .i64 x ∧ t = .int .i64 k) (fun _ t => n - (intOf t).toNat)
  case atStart => exact ⟨_, 0, Nat.zero_le _, by omega, by omega, rfl, rfl⟩
  case round =>
    obtain ⟨x, k, hk, hx0, hx1, rfl, rfl⟩ := hrel
    by_cases hlt : k < n
    · obtain ⟨a, rfl, hc⟩ := HL.out.1 k hlt
      have hLk := HL.out.2.1 k hlt
      by_cases h3 : x + L k ≤ 1048576
      · go_wp2
        go_round
        case rel => exact ⟨x + L k, k + 1, by omega, by omega, by omega, by go_num, by go_num⟩
        case measure => simp [intOf]; omega
      · go_wp2
        go_ret
        exact ⟨false, rfl, (fun h => by cases h), 0, rfl⟩
    · by_cases e1 : kn = n
      rotate_left
      · have b1 : ((kn : Int) != (n : Int)) = true := by rw [bne_iff_ne]; omega
        clear e1
        go_wp2
        go_ret
        exact ⟨false, rfl, (fun h => by cases h), 0, rfl⟩
      have b1 : ((kn : Int) != (n : Int)) = false := by simp [e1]
      have l1 : kn ≤ n := by omega
      have l1' : n ≤ kn := by omega
      have E1 : Hid (kn = n) := e1
      clear e1
      by_cases e2 : on = n
      rotate_left
      · have b2 : ((on : Int) != (n : Int)) = true := by rw [bne_iff_ne]; omega
        clear e2
        go_wp2
        go_ret
        exact ⟨false, rfl, (fun h => by cases h), 0, rfl⟩
      have b2 : ((on : Int) != (n : Int)) = false := by simp [e2]
      have E2 : Hid (on = n) := e2
      clear e2
      by_cases p0 : 0 ≤ i
      rotate_left
      · go_wp2
        go_ret
        exact ⟨false, rfl, (fun h => by cases h), 0, rfl⟩
      by_cases p1 : i < n
      rotate_left
      · go_wp2
        go_ret
        exact ⟨false, rfl, (fun h => by cases h), 0, rfl⟩
      by_cases q0 : 0 ≤ j
      rotate_left
      · go_wp2
        go_ret
        exact ⟨false, rfl, (fun h => by cases h), 0, rfl⟩
      by_cases q1 : j < n
      rotate_left
      · go_wp2
        go_ret
        exact ⟨false, rfl, (fun h => by cases h), 0, rfl⟩
      go_wp2
      go_loopw [14] (fun t wr => ∃ k2 : Nat, k2 ≤ n ∧ t = .int .i64 k2 ∧ Hid (∀ r, r < k2 → 0 ≤ K r ∧ K r ≤ L r) ∧ ∃ t', wr = w.drewN t') (fun t _ => n - (intOf t).toNat)
      case atStart => exact ⟨0, Nat.zero_le _, rfl, fun r hr => absurd hr (Nat.not_lt_zero _), 0, rfl⟩
      case round =>
        obtain ⟨k2, hk2, rfl, HK, t', rfl⟩ := hrel
        by_cases hlt2 : k2 < n
        · obtain ⟨ka, rfl, hc1⟩ := HL.out.2.2 k2 (by omega)
          obtain ⟨la, rfl, hc2⟩ := HL.out.1 k2 hlt2
          have hLk := HL.out.2.1 k2 hlt2
          have i1 : (0 : Int) ≤ (k2 : Int) := by omega
          have i2 : (k2 : Int) < (n : Int) := by omega
          have i3 : (k2 : Int) < (kn : Int) := by omega
          by_cases g1 : K k2 < 0
          · have d1 : decide (K k2 < 0) = true := by simpa using g1
            go_wp2
            go_quiet (fail)
            go_wp2
            go_ret
            exact ⟨false, rfl, (fun h => by cases h), _, World.drewN_drewN _ _ _⟩
          · have d1 : decide (K k2 < 0) = false := by simpa using g1
            by_cases g2 : (L k2 : Int) < K k2
            · have d2 : decide ((L k2 : Int) < K k2) = true := by simpa using g2
              go_wp2
              go_quiet (fail)
              go_wp2
              go_ret
              exact ⟨false, rfl, (fun h => by cases h), _, World.drewN_drewN _ _ _⟩
            · have d2 : decide ((L k2 : Int) < K k2) = false := by simpa using g2
              go_wp2
              go_quiet (fail)
              go_wp2
              go_roundw
              case rel =>
                refine ⟨k2 + 1, by omega, by go_num, fun r hr => ?_, _, rfl⟩
                by_cases e : r = k2
                · subst e; omega
                · exact HK.out r (by omega)
              case measure => simp [intOf]; omega
        · go_wp2
          go_ret
          exact ⟨true, rfl, (fun _ => ⟨h1, E1.out, E2.out, p0, p1, q0, q1, fun r hr => HK.out r (by omega)⟩), t', rfl⟩
end Go.Proofs.Qxb6613250a
