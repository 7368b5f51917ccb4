/-
  The walks: binary.BigEndian.Uint64 and (SpanID).Int64 at this program.
-/
import Derived.Test.Qxb6613276aChecked
import Derived.WalkKit
import Derived.WalkSpells
import Derived.Lib.EndianBits
import Derived.Deep.Draws
import Derived.Deep.OwnRows
import Derived.Deep.QuietTactic
import Derived.BigQuiet
import Derived.Deep.RegionWith
namespace Go.Proofs.Qxb6613276a
open Go.RowKit Go.Deep

/-- The number that eight bytes spell, the greatest first. -/
def be8 (z : Nat → Int) : Int := z 7 + z 6 * 256 + z 5 * 65536 + z 4 * 16777216 + z 3 * 4294967296 + z 2 * 1099511627776 + z 1 * 281474976710656 + z 0 * 72057594037927936

/-- Eight bytes. -/
def Bytes8 (z : Nat → Int) : Prop := ∀ k, k < 8 → 0 ≤ z k ∧ z k ≤ 255

/-- Block g holds the eight bytes z. -/
def Cells8 (w : World) (g : Nat) (z : Nat → Int) : Prop := ∀ k, k < 8 → w.cell? ⟨g, k, none⟩ = some (.int .u8 (z k))

/-- An array of eight bytes as a value. -/
abbrev arr8 (z : Nat → Int) : Value := .agg #[.int .u8 (z 0), .int .u8 (z 1), .int .u8 (z 2), .int .u8 (z 3), .int .u8 (z 4), .int .u8 (z 5), .int .u8 (z 6), .int .u8 (z 7)]

theorem cell?_alloc_old {W : World} {a : Addr} {v : Value} (o : Obj) (h : W.cell? a = some v) : (W.alloc o).cell? a = some v := Lib.cell?_alloc_some o h

set_option maxHeartbeats 8000000 in
set_option maxRecDepth 100000 in
/-- binary.BigEndian.Uint64 (turned from the kit's own contract text, Derived/Shelf/Bin/BEUint64). -/
theorem uint64_any (g : Nat) (z : Nat → Int) (w : World) (hz : Bytes8 z) (hc : Cells8 w g z) :
    Calls Try.prog 11 #[.agg #[], .slice (some ⟨g, 0, none⟩) 8 8] w fun e w' => e = .returned (.int .u64 (be8 z)) ∧ Below w.heap.size w w' := by
  have d0 := cell?_alloc_old (.cells #[] 35) (hc 0 (by decide))
  have d1 := cell?_alloc_old (.cells #[] 35) (hc 1 (by decide))
  have d2 := cell?_alloc_old (.cells #[] 35) (hc 2 (by decide))
  have d3 := cell?_alloc_old (.cells #[] 35) (hc 3 (by decide))
  have d4 := cell?_alloc_old (.cells #[] 35) (hc 4 (by decide))
  have d5 := cell?_alloc_old (.cells #[] 35) (hc 5 (by decide))
  have d6 := cell?_alloc_old (.cells #[] 35) (hc 6 (by decide))
  have d7 := cell?_alloc_old (.cells #[] 35) (hc 7 (by decide))
  obtain ⟨h0, g0⟩ := hz 0 (by decide)
  obtain ⟨h1, g1⟩ := hz 1 (by decide)
  obtain ⟨h2, g2⟩ := hz 2 (by decide)
  obtain ⟨h3, g3⟩ := hz 3 (by decide)
  obtain ⟨h4, g4⟩ := hz 4 (by decide)
  obtain ⟨h5, g5⟩ := hz 5 (by decide)
  obtain ⟨h6, g6⟩ := hz 6 (by decide)
  obtain ⟨h7, g7⟩ := hz 7 (by decide)
  have HV : Hid (be8 z = z 7 + z 6 * 256 + z 5 * 65536 + z 4 * 16777216 + z 3 * 4294967296 + z 2 * 1099511627776 + z 1 * 281474976710656 + z 0 * 72057594037927936) := rfl
  clear hc hz
  generalize be8 z = v at *
  generalize z 0 = z0 at *
  generalize z 1 = z1 at *
  generalize z 2 = z2 at *
  generalize z 3 = z3 at *
  generalize z 4 = z4 at *
  generalize z 5 = z5 at *
  generalize z 6 = z6 at *
  generalize z 7 = z7 at *
  go_enter Try.func11, Try.ntmps11
  go_wp2
  go_quiet (fail)
  go_wp2
  go_ret
  refine ⟨?_, ((Below.refl _ w).alloc (Nat.le_refl _) _).trans ⟨rfl, rfl, rfl, Nat.le_refl _, fun _ _ => rfl⟩⟩
  simp (disch := omega) only [u64_or8, u64_or16, u64_or24, u64_or32, u64_or40, u64_or48, u64_or56]
  rw [HV.out]
  rfl

/-- The same eight bytes taken as two's complement. -/
def sgn (z : Nat → Int) : Int := if be8 z < 9223372036854775808 then be8 z else be8 z - 18446744073709551616

theorem be8_range {z : Nat → Int} (hz : Bytes8 z) : 0 ≤ be8 z ∧ be8 z < 18446744073709551616 := by
  have h0 := hz 0 (by decide)
  have h1 := hz 1 (by decide)
  have h2 := hz 2 (by decide)
  have h3 := hz 3 (by decide)
  have h4 := hz 4 (by decide)
  have h5 := hz 5 (by decide)
  have h6 := hz 6 (by decide)
  have h7 := hz 7 (by decide)
  unfold be8
  omega

theorem wrap_be8 {z : Nat → Int} (hz : Bytes8 z) : IntKind.i64.wrap (be8 z) = sgn z := by
  have := be8_range hz
  unfold sgn
  rw [IntKind.wrap_i64]
  split <;> omega

theorem cells8_alloc (w : World) (z : Nat → Int) (T : TypeId) : Cells8 (w.alloc (.cells #[.int .u8 (z 0), .int .u8 (z 1), .int .u8 (z 2), .int .u8 (z 3), .int .u8 (z 4), .int .u8 (z 5), .int .u8 (z 6), .int .u8 (z 7)] T)) w.heap.size z := by
  intro k hk
  refine (World.rowIs_alloc w #[.int .u8 (z 0), .int .u8 (z 1), .int .u8 (z 2), .int .u8 (z 3), .int .u8 (z 4), .int .u8 (z 5), .int .u8 (z 6), .int .u8 (z 7)] T (fun k => .int .u8 (z k)) ?_).cell hk
  intro i hi
  have hi' : i < 8 := hi
  rcases (show i = 0 ∨ i = 1 ∨ i = 2 ∨ i = 3 ∨ i = 4 ∨ i = 5 ∨ i = 6 ∨ i = 7 from by omega) with rfl | rfl | rfl | rfl | rfl | rfl | rfl | rfl <;> rfl

set_option maxHeartbeats 1000000 in
/-- (SpanID).Int64. -/
theorem int64_any (z : Nat → Int) (w : World) (hz : Bytes8 z) :
    Calls Try.prog 7 #[arr8 z] w fun e w' => e = .returned (.int .i64 (sgn z)) ∧ Below w.heap.size w w' := by
  have hc := cells8_alloc w z 24
  have HC : Hid (Cells8 (w.alloc (.cells #[.int .u8 (z 0), .int .u8 (z 1), .int .u8 (z 2), .int .u8 (z 3), .int .u8 (z 4), .int .u8 (z 5), .int .u8 (z 6), .int .u8 (z 7)] 24)) w.heap.size z) := hc
  have HW : Hid (IntKind.i64.wrap (be8 z) = sgn z) := wrap_be8 hz
  have HZ : Hid (Bytes8 z) := hz
  clear hc hz
  go_enter Try.func7, Try.ntmps7
  go_wp2
  go_region_with (go_at_call 11; refine (uint64_any w.heap.size z _ HZ.out (by exact HC.out)).mono ?_; rintro e w1 ⟨rfl, hb1⟩)
  go_wp2
  go_ret
  refine ⟨?_, ((Below.refl _ _).alloc (Nat.le_refl _) _).trans (Below.mono ⟨hb1.os, hb1.tape, hb1.output, hb1.size, hb1.block⟩ (by simp))⟩
  rw [← HW.out]
  rfl
end Go.Proofs.Qxb6613276a
