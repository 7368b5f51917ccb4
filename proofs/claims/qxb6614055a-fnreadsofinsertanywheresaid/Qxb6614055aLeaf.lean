/-
  ZZnewOperand, zzOps and readsOf at this program.
-/
import Derived.Test.Qxb6614055aChecked
import Derived.WalkKit
import Derived.WalkSpells
import Derived.Laws.EntriesVeiled
import Derived.Deep.OwnRows
namespace Go.Proofs.Qxb6614055a
open Go.RowKit Go.Deep

theorem info33 : (Try.prog.info? 33).map (fun i => (i.zero, i.size, i.bytes)) = some (some (.agg #[.nilFunc, .int .u8 0, .bool false, .int .u32 0]), 4, 16) := by kernel_rfl

/-- An operand as a value. -/
abbrev opV (x : Nat) : Value := .agg #[.nilFunc, .int .u8 0, .bool false, .int .u32 x]

/-- Cell i of a row of operands. -/
def opCell (x : Nat → Nat) (i : Nat) : Value :=
  if i % 4 = 0 then .nilFunc else if i % 4 = 1 then .int .u8 0 else if i % 4 = 2 then .bool false else .int .u32 (x (i / 4))

/-- ZZnewOperand. -/
theorem newOp_any (x : Nat) (w : World) :
    Calls Try.prog 14 #[.int .u32 x] w fun e w' => e = .returned (opV x) ∧ w' = w.alloc (.cells #[.nilFunc, .int .u8 0, .bool false, .int .u32 x] 33) := by
  go_enter Try.func14, Try.ntmps14
  go_wp2
  simp [bodyPost, results, Try.results14, go_sem]

/-- make([]operand, n). -/
theorem run_make_ops (n : Nat) (hn : n ≤ 1048576) (w : World) :
    (Instr.makeSlice 24 (.int .i64 (n : Int)) (.int .i64 (n : Int))).run Try.prog w = .ok (.slice (some ⟨w.heap.size, 0, none⟩) n n) (w.alloc (.cells (madeCells #[.nilFunc, .int .u8 0, .bool false, .int .u32 0] (n * 4)) 33)) := by
  obtain ⟨i, hi, hzz⟩ := Option.map_eq_some_iff.1 info33
  simp only [Prod.mk.injEq] at hzz
  obtain ⟨hz, hs, hb⟩ := hzz
  have hr := run_make (P := Try.prog) w 24 33 i _ Try.underlying24 hi hz .i64 .i64 n n (by omega) (Int.le_refl _) (by rw [hb]; omega) (by omega)
  simp only [Int.toNat_natCast, hs, Value.cells] at hr
  exact hr

/-- What make lays. -/
theorem rowIs_ops (w : World) (n : Nat) : (w.alloc (.cells (madeCells #[.nilFunc, .int .u8 0, .bool false, .int .u32 0] (n * 4)) 33)).rowIs w.heap.size 33 (n * 4) (opCell fun _ => 0) := by
  refine ⟨_, blk_alloc_new _ _, size_madeCells _ _, fun i hi => ?_⟩
  have h4 : i % 4 < 4 := Nat.mod_lt _ (by decide)
  simp only [madeCells, Array.getElem?_map, Array.getElem?_range, hi, if_true, Option.map_some]
  show some (#[Value.nilFunc, .int .u8 0, .bool false, .int .u32 0][i % 4]!) = _
  unfold opCell
  rcases (show i % 4 = 0 ∨ i % 4 = 1 ∨ i % 4 = 2 ∨ i % 4 = 3 from by omega) with e | e | e | e <;> simp [e]

/-- The four cells of operand k. -/
theorem op_cells {w : World} {B n k : Nat} {x : Nat → Nat} (h : w.rowIs B 33 (n * 4) (opCell x)) (hk : k < n) :
    w.cell? ⟨B, k * 4, none⟩ = some .nilFunc ∧ w.cell? ⟨B, k * 4 + 1, none⟩ = some (.int .u8 0) ∧ w.cell? ⟨B, k * 4 + 1 + 1, none⟩ = some (.bool false) ∧ w.cell? ⟨B, k * 4 + 1 + 1 + 1, none⟩ = some (.int .u32 (x k)) := by
  refine ⟨(h.cell (by omega)).trans ?_, (h.cell (by omega)).trans ?_, (h.cell (by omega)).trans ?_, (h.cell (by omega)).trans ?_⟩
  · unfold opCell
    rw [if_pos (by omega)]
  · unfold opCell
    rw [if_neg (by omega), if_pos (by omega)]
  · unfold opCell
    rw [if_neg (by omega), if_neg (by omega), if_pos (by omega)]
  · unfold opCell
    rw [if_neg (by omega), if_neg (by omega), if_neg (by omega), show (k * 4 + 1 + 1 + 1) / 4 = k from by omega]

theorem opCell_congr {n : Nat} {x y : Nat → Nat} (h : ∀ j, j < n → x j = y j) (i : Nat) (hi : i < n * 4) : opCell x i = opCell y i := by
  unfold opCell
  rw [h (i / 4) (by omega)]

/-- A store of an operand into its place. -/
theorem op_store {w : World} {B n k : Nat} {x : Nat → Nat} (h : w.rowIs B 33 (n * 4) (opCell x)) (v : Nat) (o : Obj) :
    (((((w.setCell ⟨B, k * 4, none⟩ .nilFunc).setCell ⟨B, k * 4 + 1, none⟩ (.int .u8 0)).setCell ⟨B, k * 4 + 2, none⟩ (.bool false)).setCell ⟨B, k * 4 + 3, none⟩ (.int .u32 v)).alloc o).rowIs B 33 (n * 4) (opCell fun j => if j = k then v else x j) := by
  refine (((((h.set (k * 4) _).set (k * 4 + 1) _).set (k * 4 + 2) _).set (k * 4 + 3) _).alloc o).congr ?_
  intro i hi
  unfold opCell
  by_cases e3 : i = k * 4 + 3
  · subst e3
    simp [show (k * 4 + 3) % 4 = 3 from by omega, show (k * 4 + 3) / 4 = k from by omega]
  · by_cases e2 : i = k * 4 + 2
    · subst e2
      simp [show (k * 4 + 2) % 4 = 2 from by omega]
    · by_cases e1 : i = k * 4 + 1
      · subst e1
        simp [show (k * 4 + 1) % 4 = 1 from by omega]
      · by_cases e0 : i = k * 4
        · subst e0
          simp [show (k * 4) % 4 = 0 from by omega]
        · simp only [if_neg e3, if_neg e2, if_neg e1, if_neg e0]
          rw [if_neg (show ¬ i / 4 = k from by omega)]

theorem op_store_below {B : Nat} {a w : World} {k v : Nat} (h : Below B a w) {g : Nat} (hg : B ≤ g) (hB : B ≤ w.heap.size) (o : Obj) :
    Below B a ((((w.setCell ⟨g, k * 4, none⟩ .nilFunc).setCell ⟨g, k * 4 + 1, none⟩ (.int .u8 0)).setCell ⟨g, k * 4 + 2, none⟩ (.bool false)).setCell ⟨g, k * 4 + 3, none⟩ (.int .u32 v) |>.alloc o) := by
  refine ((((h.setCell hg _).setCell hg _).setCell hg _).setCell hg _).alloc ?_ _
  simp [World.setCell]
  exact hB

set_option maxHeartbeats 1000000 in
/-- zzOps. -/
theorem zzOps_some (a : Addr) (n c : Nat) (x : Nat → Nat) (w : World) (hn : n ≤ 65536) (hx : ∀ k, k < n → w.cell? (a.add k) = some (.int .u32 (x k))) :
    Calls Try.prog 11 #[.slice (some a) n c] w fun e w' => e = .returned (.slice (some ⟨w.heap.size, 0, none⟩) n n) ∧ Below w.heap.size w w' ∧ w'.rowIs w.heap.size 33 (n * 4) (opCell x) := by
  have hmk := run_make_ops n (by omega)
  go_enter Try.func11, Try.ntmps11
  go_wp2
  go_loopw [4] (fun i wr => ∃ k : Nat, k ≤ n ∧ i = .int .i64 k ∧ Below w.heap.size w wr ∧ wr.rowIs w.heap.size 33 (n * 4) (opCell fun j => if j < k then x j else 0)) (fun i _ => n - (intOf i).toNat)
  case atStart => exact ⟨0, Nat.zero_le _, rfl, (Below.refl _ _).alloc (Nat.le_refl _) _, rowIs_ops w n⟩
  case round =>
    obtain ⟨k, hk, rfl, hbel, hrow⟩ := hrel
    by_cases hlt : k < n
    · have hc : wr.cell? (a.add k) = some (.int .u32 (x k)) := (hbel.cell (block_lt_of_cell (hx k hlt))).trans (hx k hlt)
      obtain ⟨c0, c1, c2, c3⟩ := op_cells hrow hlt
      have f0 := hrow.frozen (k * 4)
      have f1 := hrow.frozen (k * 4 + 1)
      have f2 := hrow.frozen (k * 4 + 1 + 1)
      have f3 := hrow.frozen (k * 4 + 1 + 1 + 1)
      have hsz := hrow.lt
      have HR : Hid (wr.rowIs w.heap.size 33 (n * 4) (opCell fun j => if j < k then x j else 0)) := hrow
      clear hrow
      go_wp2_with (go_at_call 14; refine (newOp_any _ _).mono ?_; rintro e w' ⟨rfl, rfl⟩)
      go_roundw
      case rel =>
        refine ⟨k + 1, by omega, by go_num, op_store_below hbel (Nat.le_refl _) (by omega) _, (op_store HR.out (x k) _).congr (opCell_congr ?_)⟩
        intro j hj
        by_cases e : j = k
        · subst e; simp
        · by_cases e2 : j < k
          · simp [e, e2, show j < k + 1 from by omega]
          · simp [e, e2, show ¬ j < k + 1 from by omega]
      case measure => simp [intOf]; omega
    · go_wp2
      go_ret
      exact ⟨rfl, hbel, hrow.congr (opCell_congr fun j hj => by rw [if_pos (by omega)])⟩

/-- zzOps of nil. -/
theorem zzOps_nil (w : World) :
    Calls Try.prog 11 #[.slice none 0 0] w fun e w' => e = .returned (.slice (some ⟨w.heap.size, 0, none⟩) 0 0) ∧ Below w.heap.size w w' := by
  have hmk : ∀ w : World, (Instr.makeSlice 24 (.int .i64 0) (.int .i64 0)).run Try.prog w = .ok (.slice (some ⟨w.heap.size, 0, none⟩) 0 0) (w.alloc (.cells (madeCells #[.nilFunc, .int .u8 0, .bool false, .int .u32 0] 0) 33)) := fun w => run_make_ops 0 (by omega) w
  go_enter Try.func11, Try.ntmps11
  go_wp2
  go_loopw [4] (fun i wr => i = .int .i64 0 ∧ Below w.heap.size w wr) (fun i _ => 0)
  case atStart => exact ⟨rfl, (Below.refl _ _).alloc (Nat.le_refl _) _⟩
  case round =>
    obtain ⟨rfl, hbel⟩ := hrel
    go_wp2
    go_ret
    exact ⟨rfl, hbel⟩

/-- zzOps, whatever the slice. -/
theorem zzOps_any (ao : Option Addr) (n c : Nat) (x : Nat → Nat) (w : World) (hn : n ≤ 65536) (hnil : ao = none → n = 0 ∧ c = 0) (hx : ∀ a, ao = some a → ∀ k, k < n → w.cell? (a.add k) = some (.int .u32 (x k))) :
    Calls Try.prog 11 #[.slice ao n c] w fun e w' => e = .returned (.slice (some ⟨w.heap.size, 0, none⟩) n n) ∧ Below w.heap.size w w' ∧ (0 < n → w'.rowIs w.heap.size 33 (n * 4) (opCell x)) := by
  cases ao with
  | none =>
    obtain ⟨rfl, rfl⟩ := hnil rfl
    refine (zzOps_nil w).mono ?_
    rintro e w' ⟨rfl, hb⟩
    exact ⟨rfl, hb, fun h => absurd h (Nat.lt_irrefl _)⟩
  | some a =>
    refine (zzOps_some a n c x w hn (hx a rfl)).mono ?_
    rintro e w' ⟨rfl, hb, hr⟩
    exact ⟨rfl, hb, fun _ => hr⟩
end Go.Proofs.Qxb6614055a
