/-
  FnSpanIDInt64SplitsAtAnyCut: the walk.
-/
import Derived.Test.Qxb6613276aWalks
namespace Go.Proofs.Qxb6613276a
open Go.RowKit Go.Deep

/-- The first c bytes of those below q, the rest zero. -/
def hiZ (c q : Nat) (z : Nat → Int) (r : Nat) : Int := if r < q ∧ r < c then z r else 0
/-- The bytes from c on below q, the rest zero. -/
def loZ (c q : Nat) (z : Nat → Int) (r : Nat) : Int := if c ≤ r ∧ r < q then z r else 0
/-- The number that the bytes from c on below q spell. -/
def nAt (c : Nat) (z : Nat → Int) : Nat → Int
  | 0 => 0
  | q + 1 => if q < c then nAt c z q else nAt c z q * 256 + z q

/-! ### Plain -/
theorem cases8 {k : Nat} (h : k < 8) : k = 0 ∨ k = 1 ∨ k = 2 ∨ k = 3 ∨ k = 4 ∨ k = 5 ∨ k = 6 ∨ k = 7 := by omega

theorem hiZ_bytes {z : Nat → Int} (hz : Bytes8 z) (c q : Nat) : Bytes8 (hiZ c q z) := by
  intro k hk
  have := hz k hk
  unfold hiZ
  split <;> omega

theorem loZ_bytes {z : Nat → Int} (hz : Bytes8 z) (c q : Nat) : Bytes8 (loZ c q z) := by
  intro k hk
  have := hz k hk
  unfold loZ
  split <;> omega

theorem nAt_range {z : Nat → Int} (hz : Bytes8 z) (c : Nat) (h1 : 1 ≤ c) : ∀ q, q ≤ 8 → 0 ≤ nAt c z q ∧ nAt c z q < 256 ^ (q - c)
  | 0, _ => by simp [nAt]
  | q + 1, hq => by
    obtain ⟨a, b⟩ := nAt_range hz c h1 q (by omega)
    have hb := hz q (by omega)
    rw [nAt]
    split
    · rename_i h
      rw [show q - c = 0 from by omega] at b
      rw [show q + 1 - c = 0 from by omega]
      exact ⟨a, b⟩
    · rename_i h
      rw [show q + 1 - c = (q - c) + 1 from by omega, Int.pow_succ]
      generalize (256 : Int) ^ (q - c) = P at b ⊢
      omega

theorem nAt_bound {z : Nat → Int} (hz : Bytes8 z) (c : Nat) (h1 : 1 ≤ c) (q : Nat) (hq : q ≤ 7) : 0 ≤ nAt c z q ∧ nAt c z q ≤ 281474976710655 := by
  obtain ⟨a, b⟩ := nAt_range hz c h1 q (by omega)
  refine ⟨a, ?_⟩
  rcases (show q - c = 0 ∨ q - c = 1 ∨ q - c = 2 ∨ q - c = 3 ∨ q - c = 4 ∨ q - c = 5 ∨ q - c = 6 from by omega) with e | e | e | e | e | e | e <;> rw [e] at b <;> simp at b <;> omega

theorem nAt_eight (z : Nat → Int) (c : Nat) (h1 : 1 ≤ c) (h8 : c ≤ 8) : be8 (loZ c 8 z) = nAt c z 8 := by
  rcases (show c = 1 ∨ c = 2 ∨ c = 3 ∨ c = 4 ∨ c = 5 ∨ c = 6 ∨ c = 7 ∨ c = 8 from by omega) with rfl | rfl | rfl | rfl | rfl | rfl | rfl | rfl <;> simp [be8, loZ, nAt] <;> omega

theorem hi_lo (z : Nat → Int) (c : Nat) (h1 : 1 ≤ c) (h8 : c ≤ 8) : be8 (hiZ c 8 z) + be8 (loZ c 8 z) = be8 z := by
  rcases (show c = 1 ∨ c = 2 ∨ c = 3 ∨ c = 4 ∨ c = 5 ∨ c = 6 ∨ c = 7 ∨ c = 8 from by omega) with rfl | rfl | rfl | rfl | rfl | rfl | rfl | rfl <;> simp [be8, hiZ, loZ] <;> omega

theorem lo_small {z : Nat → Int} (hz : Bytes8 z) (c : Nat) (h1 : 1 ≤ c) : be8 (loZ c 8 z) < 72057594037927936 := by
  have hb := loZ_bytes hz c 8
  have h0 : loZ c 8 z 0 = 0 := by unfold loZ; rw [if_neg (by omega)]
  have h1 := hb 1 (by decide)
  have h2 := hb 2 (by decide)
  have h3 := hb 3 (by decide)
  have h4 := hb 4 (by decide)
  have h5 := hb 5 (by decide)
  have h6 := hb 6 (by decide)
  have h7 := hb 7 (by decide)
  unfold be8
  omega

theorem sgn_u64 {z : Nat → Int} (hz : Bytes8 z) : IntKind.u64.wrap (sgn z) = be8 z := by
  have := be8_range hz
  rw [IntKind.wrap_u64]
  unfold sgn
  split <;> omega

/-- The eight cells of a row, one by one. -/
theorem cells_of_row {w : World} {g : Nat} {f : Nat → Int} (h : w.rowIs g 22 8 (fun r => .int .u8 (f r))) :
    w.cell? ⟨g, 0, none⟩ = some (.int .u8 (f 0)) ∧ w.cell? ⟨g, 1, none⟩ = some (.int .u8 (f 1)) ∧ w.cell? ⟨g, 2, none⟩ = some (.int .u8 (f 2)) ∧ w.cell? ⟨g, 3, none⟩ = some (.int .u8 (f 3)) ∧
    w.cell? ⟨g, 4, none⟩ = some (.int .u8 (f 4)) ∧ w.cell? ⟨g, 5, none⟩ = some (.int .u8 (f 5)) ∧ w.cell? ⟨g, 6, none⟩ = some (.int .u8 (f 6)) ∧ w.cell? ⟨g, 7, none⟩ = some (.int .u8 (f 7)) :=
  ⟨h.cell (by decide), h.cell (by decide), h.cell (by decide), h.cell (by decide), h.cell (by decide), h.cell (by decide), h.cell (by decide), h.cell (by decide)⟩

/-! ### The three rows in the loop -/
/-- What the loop has done: block B the id, B + 1 its head, B + 1 + 1 its tail. -/
def Rows3 (w wr : World) (c q : Nat) (z : Nat → Int) : Prop :=
  Below w.heap.size w wr ∧ wr.rowIs w.heap.size 22 8 (fun r => .int .u8 (z r)) ∧ wr.rowIs (w.heap.size + 1) 22 8 (fun r => .int .u8 (hiZ c q z r)) ∧ wr.rowIs (w.heap.size + 1 + 1) 22 8 (fun r => .int .u8 (loZ c q z r))

theorem row8 (W : World) (f : Nat → Int) : (W.alloc (.cells #[.int .u8 (f 0), .int .u8 (f 1), .int .u8 (f 2), .int .u8 (f 3), .int .u8 (f 4), .int .u8 (f 5), .int .u8 (f 6), .int .u8 (f 7)] 22)).rowIs W.heap.size 22 8 (fun r => .int .u8 (f r)) := by
  refine World.rowIs_alloc W _ 22 _ ?_
  intro i hi
  have hi' : i < 8 := hi
  rcases cases8 hi' with rfl | rfl | rfl | rfl | rfl | rfl | rfl | rfl <;> rfl

theorem rows_start (w : World) (c : Nat) (z : Nat → Int) : Rows3 w (((w.alloc (.cells #[.int .u8 (z 0), .int .u8 (z 1), .int .u8 (z 2), .int .u8 (z 3), .int .u8 (z 4), .int .u8 (z 5), .int .u8 (z 6), .int .u8 (z 7)] 22)).alloc
    (.cells #[.int .u8 0, .int .u8 0, .int .u8 0, .int .u8 0, .int .u8 0, .int .u8 0, .int .u8 0, .int .u8 0] 22)).alloc (.cells #[.int .u8 0, .int .u8 0, .int .u8 0, .int .u8 0, .int .u8 0, .int .u8 0, .int .u8 0, .int .u8 0] 22)) c 0 z := by
  have r0 := row8 w z
  have r1 := row8 (w.alloc (.cells #[.int .u8 (z 0), .int .u8 (z 1), .int .u8 (z 2), .int .u8 (z 3), .int .u8 (z 4), .int .u8 (z 5), .int .u8 (z 6), .int .u8 (z 7)] 22)) (fun _ => 0)
  have r2 := row8 ((w.alloc (.cells #[.int .u8 (z 0), .int .u8 (z 1), .int .u8 (z 2), .int .u8 (z 3), .int .u8 (z 4), .int .u8 (z 5), .int .u8 (z 6), .int .u8 (z 7)] 22)).alloc (.cells #[.int .u8 0, .int .u8 0, .int .u8 0, .int .u8 0, .int .u8 0, .int .u8 0, .int .u8 0, .int .u8 0] 22)) (fun _ => 0)
  generalize (Obj.cells #[.int .u8 (z 0), .int .u8 (z 1), .int .u8 (z 2), .int .u8 (z 3), .int .u8 (z 4), .int .u8 (z 5), .int .u8 (z 6), .int .u8 (z 7)] 22) = X at *
  have e1 : (w.alloc X).heap.size = w.heap.size + 1 := by simp
  have e2 : ((w.alloc X).alloc (.cells #[.int .u8 0, .int .u8 0, .int .u8 0, .int .u8 0, .int .u8 0, .int .u8 0, .int .u8 0, .int .u8 0] 22)).heap.size = w.heap.size + 1 + 1 := by simp
  rw [e1] at r1
  rw [e2] at r2
  refine ⟨(((Below.refl _ _).alloc (Nat.le_refl _) _).alloc (by rw [e1]; omega) _).alloc (by rw [e2]; omega) _, (r0.alloc _).alloc _, (r1.alloc _).congr ?_, r2.congr ?_⟩
  · intro i _
    simp [hiZ]
  · intro i _
    simp [loZ]

theorem rows_hi {w wr : World} {c q : Nat} {z : Nat → Int} (h : Rows3 w wr c q z) (hq : q < c) : Rows3 w (wr.setCell ⟨w.heap.size + 1, q, none⟩ (.int .u8 (z q))) c (q + 1) z := by
  obtain ⟨hb, r0, r1, r2⟩ := h
  refine ⟨hb.setCell (by show w.heap.size ≤ w.heap.size + 1; omega) _, r0.setOther (by show w.heap.size ≠ w.heap.size + 1; omega) _, (r1.set q _).congr ?_, (r2.setOther (by show w.heap.size + 1 + 1 ≠ w.heap.size + 1; omega) _).congr ?_⟩
  · intro i _
    by_cases e : i = q
    · subst e
      simp [hiZ, hq]
    · simp only [if_neg e, hiZ]
      by_cases e2 : i < q
      · simp [e2, show i < q + 1 from by omega]
      · simp [e2, show ¬ i < q + 1 from by omega]
  · intro i _
    simp only [loZ]
    by_cases e : c ≤ i
    · simp [show ¬ i < q from by omega, show ¬ i < q + 1 from by omega]
    · simp [e]

theorem rows_lo {w wr : World} {c q : Nat} {z : Nat → Int} (h : Rows3 w wr c q z) (hq : c ≤ q) : Rows3 w (wr.setCell ⟨w.heap.size + 1 + 1, q, none⟩ (.int .u8 (z q))) c (q + 1) z := by
  obtain ⟨hb, r0, r1, r2⟩ := h
  refine ⟨hb.setCell (by show w.heap.size ≤ w.heap.size + 1 + 1; omega) _, r0.setOther (by show w.heap.size ≠ w.heap.size + 1 + 1; omega) _, (r1.setOther (by show w.heap.size + 1 ≠ w.heap.size + 1 + 1; omega) _).congr ?_, (r2.set q _).congr ?_⟩
  · intro i _
    simp only [hiZ]
    by_cases e : i < c
    · simp [show i < q from by omega, show i < q + 1 from by omega]
    · simp [e]
  · intro i _
    by_cases e : i = q
    · subst e
      simp [loZ, hq]
    · simp only [if_neg e, loZ]
      by_cases e2 : i < q
      · simp [e2, show i < q + 1 from by omega]
      · simp [e2, show ¬ i < q + 1 from by omega]

set_option maxHeartbeats 2000000 in
theorem split_walk (z : Nat → Int) (c : Nat) (w : World) (hz : Bytes8 z) (h1 : 1 ≤ c) (h8 : c ≤ 8) :
    Calls Try.prog 3 #[arr8 z, .int .i64 c] w fun e w' => e = .returned (.bool true) ∧ Below w.heap.size w w' := by
  have HZ : Hid (Bytes8 z) := hz
  have t1 : decide ((c : Int) < 1) = false := by simp; omega
  have t2 : decide ((8 : Int) < (c : Int)) = false := by simp; omega
  clear hz
  go_enter Try.func3, Try.ntmps3
  go_wp2
  go_loopw [7, 8] (fun n j wr => ∃ q : Nat, q ≤ 8 ∧ j = .int .i64 q ∧ n = .int .u64 (nAt c z q) ∧ Rows3 w wr c q z) (fun _ j _ => 8 - (intOf j).toNat)
  case atStart => exact ⟨0, Nat.zero_le _, rfl, rfl, rows_start w c z⟩
  case round =>
    obtain ⟨q, hq, rfl, rfl, hrows⟩ := hrel
    have HR : Hid (Rows3 w wr c q z) := hrows
    by_cases hlt : q < 8
    · have c0 := hrows.2.1.cell hlt
      have q0 : (0 : Int) ≤ (q : Int) := by omega
      have q1 : (q : Int) < 8 := by omega
      by_cases hcut : q < c
      · have c1 := hrows.2.2.1.cell hlt
        have f1 := hrows.2.2.1.frozen q
        have HS : Hid (nAt c z (q + 1) = nAt c z q) := by show nAt c z (q + 1) = _; rw [nAt, if_pos hcut]
        clear hrows
        go_wp2
        go_roundw
        case rel => exact ⟨q + 1, by omega, by go_num, by rw [HS.out], rows_hi HR.out hcut⟩
        case measure => simp [intOf]; omega
      · have c1 := hrows.2.2.2.cell hlt
        have f1 := hrows.2.2.2.frozen q
        have hn := nAt_bound HZ.out c h1 q (by omega)
        have hb := HZ.out q hlt
        have HS : Hid (nAt c z (q + 1) = nAt c z q * 256 + z q) := by show nAt c z (q + 1) = _; rw [nAt, if_neg hcut]
        obtain ⟨n0, n1⟩ := hn
        obtain ⟨b0, b1⟩ := hb
        clear hrows
        go_wp2
        go_roundw
        case rel => exact ⟨q + 1, by omega, by go_num, by rw [HS.out], rows_lo HR.out (by omega)⟩
        case measure => simp [intOf]; omega
    · obtain rfl : q = 8 := by omega
      obtain ⟨a0, a1, a2, a3, a4, a5, a6, a7⟩ := cells_of_row hrows.2.1
      clear hrows
      go_wp2_with fail
      refine (int64_any z _ HZ.out).mono ?_
      rintro e w2 ⟨rfl, hb2⟩
      have r1 := HR.out.2.2.1.of_block (hb2.block _ HR.out.2.2.1.lt)
      have r2 := HR.out.2.2.2.of_block (hb2.block _ HR.out.2.2.2.lt)
      have HB2 : Hid (Below w.heap.size w w2) := HR.out.1.trans (hb2.mono HR.out.1.size)
      have HR2 : Hid (w2.rowIs (w.heap.size + 1 + 1) 22 8 (fun r => .int .u8 (loZ c 8 z r))) := r2
      clear a0 a1 a2 a3 a4 a5 a6 a7 hb2 r2
      obtain ⟨a0, a1, a2, a3, a4, a5, a6, a7⟩ := cells_of_row r1
      clear r1
      go_wp2_with fail
      refine (int64_any (hiZ c 8 z) _ (hiZ_bytes HZ.out c 8)).mono ?_
      rintro e w3 ⟨rfl, hb3⟩
      have r3 := HR2.out.of_block (hb3.block _ HR2.out.lt)
      have HB3 : Hid (Below w.heap.size w w3) := HB2.out.trans (hb3.mono HB2.out.size)
      clear a0 a1 a2 a3 a4 a5 a6 a7 hb3
      obtain ⟨a0, a1, a2, a3, a4, a5, a6, a7⟩ := cells_of_row r3
      clear r3
      go_wp2_with fail
      refine (int64_any (loZ c 8 z) _ (loZ_bytes HZ.out c 8)).mono ?_
      rintro e w4 ⟨rfl, hb4⟩
      have HB4 : Hid (Below w.heap.size w w4) := HB3.out.trans (hb4.mono HB3.out.size)
      clear a0 a1 a2 a3 a4 a5 a6 a7 hb4
      have s1 : sgn (loZ c 8 z) = nAt c z 8 := by
        have := lo_small HZ.out c h1
        unfold sgn
        rw [if_pos (by omega), nAt_eight z c h1 h8]
      have n0 : 0 ≤ nAt c z 8 := by rw [← nAt_eight z c h1 h8]; exact (be8_range (loZ_bytes HZ.out c 8)).1
      have n1 : nAt c z 8 < 72057594037927936 := by rw [← nAt_eight z c h1 h8]; exact lo_small HZ.out c h1
      have s2 := sgn_u64 HZ.out
      have s3 := sgn_u64 (hiZ_bytes HZ.out c 8)
      have S4 : Hid (be8 (hiZ c 8 z) + nAt c z 8 = be8 z) := by show _ = _; rw [← nAt_eight z c h1 h8]; exact hi_lo z c h1 h8
      have e1 := be8_range HZ.out
      have e2 := be8_range (hiZ_bytes HZ.out c 8)
      rw [s1]
      clear s1
      generalize sgn z = x1 at *
      generalize sgn (hiZ c 8 z) = x2 at *
      generalize be8 z = y1 at *
      generalize be8 (hiZ c 8 z) = y2 at *
      generalize nAt c z 8 = nn at *
      obtain ⟨e1a, e1b⟩ := e1
      obtain ⟨e2a, e2b⟩ := e2
      go_wp2
      go_ret
      refine ⟨?_, HB4.out⟩
      show Ending.returned (.bool (y1 == IntKind.u64.wrap (y2 + nn))) = _
      have e : IntKind.u64.wrap (y2 + nn) = y1 := by rw [S4.out, IntKind.wrap_u64]; omega
      rw [e]
      simp

/-- Whatever the cut. -/
theorem split_any (z : Nat → Int) (c : Int) (w : World) (hz : Bytes8 z) :
    Calls Try.prog 3 #[arr8 z, .int .i64 c] w fun e w' => e = .returned (.bool true) ∧ Below w.heap.size w w' := by
  by_cases h1 : 1 ≤ c
  · by_cases h8 : c ≤ 8
    · obtain ⟨k, rfl⟩ := Int.eq_ofNat_of_zero_le (show 0 ≤ c from by omega)
      exact split_walk z k w hz (by omega) (by omega)
    · clear hz
      go_enter Try.func3, Try.ntmps3
      go_wp2
      go_ret
      exact ⟨rfl, (Below.refl _ _).alloc (Nat.le_refl _) _⟩
  · clear hz
    go_enter Try.func3, Try.ntmps3
    go_wp2
    go_ret
    exact ⟨rfl, (Below.refl _ _).alloc (Nat.le_refl _) _⟩
end Go.Proofs.Qxb6613276a
