/-
  The leaves: cloneBytes and ZZnewRun at this program.
-/
import Derived.Test.Qxb6613250aChecked
import Derived.WalkKit
import Derived.WalkSpells
import Derived.Deep.OwnRows
namespace Go.Proofs.Qxb6613250a
open Go.RowKit Go.Deep

theorem info5 : (Try.prog.info? 5).map (fun i => (i.zero, i.size, i.bytes)) = some (some (.int .u8 0), 1, 1) := by kernel_rfl
theorem info29 : (Try.prog.info? 29).map (fun i => (i.zero, i.size, i.bytes)) = some (some (.pointer none), 1, 8) := by kernel_rfl

theorem lt_of_cell {w : World} {a : Addr} {v : Value} (h : w.cell? a = some v) : a.block < w.heap.size := by
  refine Decidable.byContradiction fun hn => ?_
  simp [World.cell?, Array.getElem?_eq_none (Nat.le_of_not_lt hn)] at h

set_option maxHeartbeats 400000 in
/-- cloneBytes of a slice that is not nil: a new row with the same bytes. -/
theorem clone_some (a : Addr) (l c : Nat) (z : Nat → Int) (w : World) (hl : l ≤ 1048576) (hz : ∀ k, k < l → w.cell? (a.add k) = some (.int .u8 (z k))) :
    Calls Try.prog 11 #[.slice (some a) l c] w fun e w' => e = .returned (.slice (some ⟨w.heap.size, 0, none⟩) l l) ∧ Below w.heap.size w w' ∧ w'.rowIs w.heap.size 5 l (fun k => .int .u8 (z k)) := by
  have hmk := run_make_row' (P := Try.prog) 28 5 (.int .u8 0) 1 Try.underlying28 info5 rfl .i64 .i64 l (by omega) (by omega)
  have hnil := fun (w : World) => Lib.run_eql_slice_nil (P := Try.prog) w 28 5 (some a) l c 0 0 Try.underlying28
  go_enter Try.func11, Try.ntmps11
  go_wp2
  go_loopw [4] (fun i wr => ∃ k : Nat, k ≤ l ∧ i = .int .i64 k ∧ Below w.heap.size w wr ∧ wr.rowIs w.heap.size 5 l (fun j => .int .u8 (if j < k then z j else 0))) (fun i _ => l - (intOf i).toNat)
  case atStart => exact ⟨0, Nat.zero_le _, rfl, (Below.refl _ _).alloc (Nat.le_refl _) _, (World.rowIs_made _ _ _ _).congr (by simp)⟩
  case round =>
    obtain ⟨k, hk, rfl, hbel, hrow⟩ := hrel
    by_cases hlt : k < l
    · have hc : wr.cell? (a.add k) = some (.int .u8 (z k)) := (hbel.cell (by have := lt_of_cell (hz k hlt); exact this)).trans (hz k hlt)
      have hc2 := hrow.cell hlt
      have hf := hrow.frozen k
      go_wp2
      go_roundw
      case rel =>
        refine ⟨k + 1, by omega, by go_num, hbel.setCell (Nat.le_refl _) _, (hrow.set k _).congr ?_⟩
        intro i hi
        by_cases e : i = k
        · subst e; simp
        · by_cases e2 : i < k
          · simp [e, e2, show i < k + 1 from by omega]
          · simp [e, e2, show ¬ i < k + 1 from by omega]
      case measure => simp [intOf]; omega
    · go_wp2
      go_ret
      exact ⟨rfl, hbel, hrow.congr (by intro i hi; rw [if_pos (by omega)])⟩

/-- cloneBytes of nil is nil. -/
theorem clone_nil (w : World) : Calls Try.prog 11 #[.slice none 0 0] w fun e w' => e = .returned (.slice none 0 0) ∧ w' = w := by
  have hnil := fun (w : World) => Lib.run_eql_slice_nil (P := Try.prog) w 28 5 none 0 0 0 0 Try.underlying28
  go_enter Try.func11, Try.ntmps11
  go_wp2
  go_ret
  exact ⟨rfl, rfl⟩

/-- The call's own copy of l bytes: nil where there is none to copy, else a new row. -/
def Copied (w : World) (B : Nat) (ao : Option Addr) (l : Nat) (z : Nat → Int) : Prop :=
  (ao = none ∧ l = 0) ∨ (ao = some ⟨B, 0, none⟩ ∧ w.rowIs B 5 l (fun k => .int .u8 (z k)))

/-- cloneBytes of whatever slice. -/
theorem clone_any (ao : Option Addr) (l c : Nat) (z : Nat → Int) (w : World) (hl : l ≤ 1048576) (hn : ao = none → l = 0 ∧ c = 0)
    (hz : ∀ a, ao = some a → ∀ k, k < l → w.cell? (a.add k) = some (.int .u8 (z k))) :
    Calls Try.prog 11 #[.slice ao l c] w fun e w' => ∃ ao', e = .returned (.slice ao' l l) ∧ Below w.heap.size w w' ∧ Copied w' w.heap.size ao' l z := by
  cases ao with
  | none =>
    obtain ⟨rfl, rfl⟩ := hn rfl
    refine (clone_nil w).mono ?_
    rintro e w' ⟨rfl, rfl⟩
    exact ⟨none, rfl, Below.refl _ _, Or.inl ⟨rfl, rfl⟩⟩
  | some a =>
    refine (clone_some a l c z w hl (hz a rfl)).mono ?_
    rintro e w' ⟨rfl, hb, hr⟩
    exact ⟨_, rfl, hb, Or.inr ⟨rfl, hr⟩⟩

/-- ZZnewRun: a new block with the run's four fields. -/
theorem newRun_any (o k : Int) (ao : Option Addr) (l c : Nat) (w : World) :
    Calls Try.prog 10 #[.int .i64 o, .slice ao l c, .int .i64 k] w fun e w' => e = .returned (.pointer (some ⟨w.heap.size, 0, none⟩)) ∧ w' = w.alloc (.cells #[.int .i64 o, .nilFunc, .slice ao l c, .int .i64 k] 37) := by
  go_enter Try.func10, Try.ntmps10
  go_wp2
  go_ret
  exact ⟨rfl, rfl⟩
end Go.Proofs.Qxb6613250a
