/-
  readsOf and ZZreadsOf at this program.
-/
import Derived.Test.Qxb6614055aLeaf
import Derived.Test.Qxb6614055aPlain
namespace Go.Proofs.Qxb6614055a
open Go.RowKit Go.Deep

set_option maxHeartbeats 1000000 in
/-- readsOf, one operand or more. -/
theorem reads_some (b o n c : Nat) (x : Nat → Nat) (w : World) (hn : n ≤ 1048576) (hx : ∀ k, k < n → x k < 4294967296)
    (hc : ∀ k, k < n → w.cell? ⟨b, o + k * 4, none⟩ = some .nilFunc ∧ w.cell? ⟨b, o + k * 4 + 1, none⟩ = some (.int .u8 0) ∧ w.cell? ⟨b, o + k * 4 + 1 + 1, none⟩ = some (.bool false) ∧ w.cell? ⟨b, o + k * 4 + 1 + 1 + 1, none⟩ = some (.int .u32 (x k))) :
    Calls Try.prog 26 #[.slice (some ⟨b, o, none⟩) n c] w fun e w' => e = .returned (.int .u32 (orF x n)) ∧ Below w.heap.size w w' := by
  have HX : Hid (∀ k, k < n → x k < 4294967296) := hx
  have HC : Hid (∀ k, k < n → w.cell? ⟨b, o + k * 4, none⟩ = some .nilFunc ∧ w.cell? ⟨b, o + k * 4 + 1, none⟩ = some (.int .u8 0) ∧ w.cell? ⟨b, o + k * 4 + 1 + 1, none⟩ = some (.bool false) ∧ w.cell? ⟨b, o + k * 4 + 1 + 1 + 1, none⟩ = some (.int .u32 (x k))) := hc
  clear hx hc
  go_enter Try.func26, Try.ntmps26
  go_wp2
  go_loopw [3, 8] (fun s i wr => ∃ k : Nat, k ≤ n ∧ s = .int .u32 (orF x k) ∧ i = .int .i64 k ∧ Below w.heap.size w wr) (fun _ i _ => n - (intOf i).toNat)
  case atStart => exact ⟨0, Nat.zero_le _, rfl, rfl, Below.refl _ _⟩
  case round =>
    obtain ⟨k, hk, rfl, rfl, hbel⟩ := hrel
    by_cases hlt : k < n
    · obtain ⟨d0, d1, d2, d3⟩ := HC.out k hlt
      have c0 := (hbel.cell (block_lt_of_cell d0)).trans d0
      have c1 := (hbel.cell (block_lt_of_cell d1)).trans d1
      have c2 := (hbel.cell (block_lt_of_cell d2)).trans d2
      have c3 := (hbel.cell (block_lt_of_cell d3)).trans d3
      have i1 : (0 : Int) ≤ (k : Int) := by omega
      have i2 : (k : Int) < (n : Int) := by omega
      have hs := orF_lt HX.out k hk
      have hy := HX.out k hlt
      have hor := u32_or_nat (orF x k) (x k) hs hy
      have HO : Hid (orF x (k + 1) = orF x k ||| x k) := rfl
      clear d0 d1 d2 d3
      go_wp2
      go_roundw
      case rel => exact ⟨k + 1, by omega, by rw [HO.out], by go_num, hbel.alloc hbel.size _⟩
      case measure => simp [intOf]; omega
    · go_wp2
      go_ret
      exact ⟨by rw [show n = k from by omega]; rfl, hbel⟩

/-- readsOf, no operand. -/
theorem reads_none (ao : Option Addr) (c : Nat) (w : World) :
    Calls Try.prog 26 #[.slice ao 0 c] w fun e w' => e = .returned (.int .u32 0) ∧ Below w.heap.size w w' := by
  go_enter Try.func26, Try.ntmps26
  go_wp2
  go_loopw [3, 8] (fun s i wr => s = .int .u32 0 ∧ i = .int .i64 0 ∧ Below w.heap.size w wr) (fun _ _ _ => 0)
  case atStart => exact ⟨rfl, rfl, Below.refl _ _⟩
  case round =>
    obtain ⟨rfl, rfl, hbel⟩ := hrel
    go_wp2
    go_ret
    exact ⟨rfl, hbel⟩

/-- The operands x lie from offset o on in block b. -/
def OpsAt (w : World) (ao : Option Addr) (n : Nat) (x : Nat → Nat) : Prop :=
  0 < n → ∃ b o, ao = some ⟨b, o, none⟩ ∧ ∀ k, k < n → w.cell? ⟨b, o + k * 4, none⟩ = some .nilFunc ∧ w.cell? ⟨b, o + k * 4 + 1, none⟩ = some (.int .u8 0) ∧ w.cell? ⟨b, o + k * 4 + 1 + 1, none⟩ = some (.bool false) ∧ w.cell? ⟨b, o + k * 4 + 1 + 1 + 1, none⟩ = some (.int .u32 (x k))

/-- readsOf, whatever the slice. -/
theorem reads_any (ao : Option Addr) (n c : Nat) (x : Nat → Nat) (w : World) (hn : n ≤ 1048576) (hx : ∀ k, k < n → x k < 4294967296) (hc : OpsAt w ao n x) :
    Calls Try.prog 26 #[.slice ao n c] w fun e w' => e = .returned (.int .u32 (orF x n)) ∧ Below w.heap.size w w' := by
  by_cases h : 0 < n
  · obtain ⟨b, o, rfl, hc'⟩ := hc h
    exact reads_some b o n c x w hn hx hc'
  · obtain rfl : n = 0 := by omega
    exact reads_none ao c w

/-- ZZreadsOf. -/
theorem zzreads_any (ao : Option Addr) (n c : Nat) (x : Nat → Nat) (w : World) (hn : n ≤ 1048576) (hx : ∀ k, k < n → x k < 4294967296) (hc : OpsAt w ao n x) :
    Calls Try.prog 12 #[.slice ao n c] w fun e w' => e = .returned (.int .u32 (orF x n)) ∧ Below w.heap.size w w' := by
  have HX : Hid ((∀ k, k < n → x k < 4294967296) ∧ OpsAt w ao n x) := ⟨hx, hc⟩
  clear hx hc
  go_enter Try.func12, Try.ntmps12
  go_wp2_with (go_at_call 26; refine (reads_any ao n c x _ hn HX.out.1 HX.out.2).mono ?_; rintro e w' ⟨rfl, hb⟩)
  go_ret
  exact ⟨rfl, hb⟩

/-- A part of a row of operands. -/
theorem opsAt_part {w : World} {B n s m : Nat} {x : Nat → Nat} (h : 0 < n → w.rowIs B 33 (n * 4) (opCell x)) (hs : s + m ≤ n) (ao : Option Addr) (ha : 0 < m → ao = some ⟨B, s * 4, none⟩) : OpsAt w ao m (fun j => x (s + j)) := by
  intro hm
  refine ⟨B, s * 4, ha hm, fun k hk => ?_⟩
  have h4 := op_cells (h (by omega)) (show s + k < n from by omega)
  rw [show (s + k) * 4 = s * 4 + k * 4 from by omega] at h4
  exact h4

theorem OpsAt.below {w w' : World} {ao : Option Addr} {n : Nat} {x : Nat → Nat} (h : OpsAt w ao n x) (hb : Below w.heap.size w w') : OpsAt w' ao n x := by
  intro hn
  obtain ⟨b, o, ha, hc⟩ := h hn
  refine ⟨b, o, ha, fun k hk => ?_⟩
  obtain ⟨d0, d1, d2, d3⟩ := hc k hk
  exact ⟨(hb.cell (block_lt_of_cell d0)).trans d0, (hb.cell (block_lt_of_cell d1)).trans d1, (hb.cell (block_lt_of_cell d2)).trans d2, (hb.cell (block_lt_of_cell d3)).trans d3⟩
end Go.Proofs.Qxb6614055a
