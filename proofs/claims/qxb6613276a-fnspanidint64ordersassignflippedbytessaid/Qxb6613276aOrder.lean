/-
  FnSpanIDInt64OrdersAsSignFlippedBytes: the walk.
-/
import Derived.Test.Qxb6613276aWalks
namespace Go.Proofs.Qxb6613276a
open Go.RowKit Go.Deep

/-! ### Plain -/
/-- The byte at place j, the top bit of the first one flipped. -/
def flipZ (z : Nat → Int) (j : Nat) : Int := if j = 0 then bits .xor .u8 (z 0) 128 else z j

theorem xor128_fin : ∀ n : Fin 256, bits .xor .u8 (n.val : Int) 128 = if n.val < 128 then (n.val : Int) + 128 else (n.val : Int) - 128 := by decide +kernel

theorem xor128 (a : Int) (h0 : 0 ≤ a) (h1 : a ≤ 255) : bits .xor .u8 a 128 = if a < 128 then a + 128 else a - 128 := by
  have h := xor128_fin ⟨a.toNat, by omega⟩
  simp only [Int.toNat_of_nonneg h0] at h
  rw [h]
  by_cases e : a < 128
  · rw [if_pos e, if_pos (by omega)]
  · rw [if_neg e, if_neg (by omega)]

/-- The first byte flipped shifts the number by 2^63, so that two's complement orders as the bytes do. -/
theorem sgn_flip {z : Nat → Int} (hz : Bytes8 z) : sgn z = flipZ z 7 + flipZ z 6 * 256 + flipZ z 5 * 65536 + flipZ z 4 * 16777216 + flipZ z 3 * 4294967296 + flipZ z 2 * 1099511627776 + flipZ z 1 * 281474976710656 + flipZ z 0 * 72057594037927936 - 9223372036854775808 := by
  have h0 := hz 0 (by decide)
  have h1 := hz 1 (by decide)
  have h2 := hz 2 (by decide)
  have h3 := hz 3 (by decide)
  have h4 := hz 4 (by decide)
  have h5 := hz 5 (by decide)
  have h6 := hz 6 (by decide)
  have h7 := hz 7 (by decide)
  have e0 : flipZ z 0 = if z 0 < 128 then z 0 + 128 else z 0 - 128 := by
    show (if (0 : Nat) = 0 then bits .xor .u8 (z 0) 128 else z 0) = _
    rw [if_pos rfl, xor128 _ h0.1 h0.2]
  have e1 : flipZ z 1 = z 1 := rfl
  have e2 : flipZ z 2 = z 2 := rfl
  have e3 : flipZ z 3 = z 3 := rfl
  have e4 : flipZ z 4 = z 4 := rfl
  have e5 : flipZ z 5 = z 5 := rfl
  have e6 : flipZ z 6 = z 6 := rfl
  have e7 : flipZ z 7 = z 7 := rfl
  rw [e0, e1, e2, e3, e4, e5, e6, e7]
  unfold sgn be8
  split <;> split <;> omega

theorem flip_range {z : Nat → Int} (hz : Bytes8 z) : ∀ k, k < 8 → 0 ≤ flipZ z k ∧ flipZ z k ≤ 255 := by
  intro k hk
  have h := hz k hk
  unfold flipZ
  split
  · rename_i e
    subst e
    rw [xor128 _ h.1 h.2]
    split <;> omega
  · exact h

theorem flip_inj {a b : Nat → Int} (ha : Bytes8 a) (hb : Bytes8 b) (j : Nat) (hj : j < 8) : flipZ a j = flipZ b j ↔ a j = b j := by
  have h := ha j hj
  have h' := hb j hj
  unfold flipZ
  split
  · rename_i e
    subst e
    rw [xor128 _ h.1 h.2, xor128 _ h'.1 h'.2]
    split <;> split <;> omega
  · exact Iff.rfl

/-- At the first place where they differ. -/
theorem order_at {a b : Nat → Int} (ha : Bytes8 a) (hb : Bytes8 b) (j : Nat) (hj : j < 8) (he : ∀ r, r < j → flipZ a r = flipZ b r) (hd : flipZ a j ≠ flipZ b j) :
    (sgn a < sgn b ↔ flipZ a j < flipZ b j) ∧ sgn a ≠ sgn b := by
  rw [sgn_flip ha, sgn_flip hb]
  have fa := flip_range ha
  have fb := flip_range hb
  have a0 := fa 0 (by decide); have a1 := fa 1 (by decide); have a2 := fa 2 (by decide); have a3 := fa 3 (by decide); have a4 := fa 4 (by decide); have a5 := fa 5 (by decide); have a6 := fa 6 (by decide); have a7 := fa 7 (by decide)
  have b0 := fb 0 (by decide); have b1 := fb 1 (by decide); have b2 := fb 2 (by decide); have b3 := fb 3 (by decide); have b4 := fb 4 (by decide); have b5 := fb 5 (by decide); have b6 := fb 6 (by decide); have b7 := fb 7 (by decide)
  clear fa fb ha hb
  rcases (show j = 0 ∨ j = 1 ∨ j = 2 ∨ j = 3 ∨ j = 4 ∨ j = 5 ∨ j = 6 ∨ j = 7 from by omega) with rfl | rfl | rfl | rfl | rfl | rfl | rfl | rfl
  · omega
  · have e0 := he 0 (by decide)
    omega
  · have e0 := he 0 (by decide); have e1 := he 1 (by decide)
    omega
  · have e0 := he 0 (by decide); have e1 := he 1 (by decide); have e2 := he 2 (by decide)
    omega
  · have e0 := he 0 (by decide); have e1 := he 1 (by decide); have e2 := he 2 (by decide); have e3 := he 3 (by decide)
    omega
  · have e0 := he 0 (by decide); have e1 := he 1 (by decide); have e2 := he 2 (by decide); have e3 := he 3 (by decide); have e4 := he 4 (by decide)
    omega
  · have e0 := he 0 (by decide); have e1 := he 1 (by decide); have e2 := he 2 (by decide); have e3 := he 3 (by decide); have e4 := he 4 (by decide); have e5 := he 5 (by decide)
    omega
  · have e0 := he 0 (by decide); have e1 := he 1 (by decide); have e2 := he 2 (by decide); have e3 := he 3 (by decide); have e4 := he 4 (by decide); have e5 := he 5 (by decide); have e6 := he 6 (by decide)
    omega

theorem order_same {a b : Nat → Int} (ha : Bytes8 a) (hb : Bytes8 b) (he : ∀ r, r < 8 → flipZ a r = flipZ b r) : sgn a = sgn b := by
  rw [sgn_flip ha, sgn_flip hb, he 0 (by decide), he 1 (by decide), he 2 (by decide), he 3 (by decide), he 4 (by decide), he 5 (by decide), he 6 (by decide), he 7 (by decide)]

theorem neg_iff {a : Nat → Int} (ha : Bytes8 a) : sgn a < 0 ↔ 128 ≤ a 0 := by
  have h0 := ha 0 (by decide)
  have h1 := ha 1 (by decide)
  have h2 := ha 2 (by decide)
  have h3 := ha 3 (by decide)
  have h4 := ha 4 (by decide)
  have h5 := ha 5 (by decide)
  have h6 := ha 6 (by decide)
  have h7 := ha 7 (by decide)
  unfold sgn be8
  split <;> omega

/-! ### The walk -/
theorem two_arrays (w : World) (a b : Nat → Int) :
    Cells8 ((w.alloc (.cells #[.int .u8 (a 0), .int .u8 (a 1), .int .u8 (a 2), .int .u8 (a 3), .int .u8 (a 4), .int .u8 (a 5), .int .u8 (a 6), .int .u8 (a 7)] 22)).alloc (.cells #[.int .u8 (b 0), .int .u8 (b 1), .int .u8 (b 2), .int .u8 (b 3), .int .u8 (b 4), .int .u8 (b 5), .int .u8 (b 6), .int .u8 (b 7)] 22)) w.heap.size a ∧
    Cells8 ((w.alloc (.cells #[.int .u8 (a 0), .int .u8 (a 1), .int .u8 (a 2), .int .u8 (a 3), .int .u8 (a 4), .int .u8 (a 5), .int .u8 (a 6), .int .u8 (a 7)] 22)).alloc (.cells #[.int .u8 (b 0), .int .u8 (b 1), .int .u8 (b 2), .int .u8 (b 3), .int .u8 (b 4), .int .u8 (b 5), .int .u8 (b 6), .int .u8 (b 7)] 22)) (w.heap.size + 1) b := by
  refine ⟨fun k hk => Lib.cell?_alloc_some _ (cells8_alloc w a 22 k hk), ?_⟩
  have h := cells8_alloc (w.alloc (.cells #[.int .u8 (a 0), .int .u8 (a 1), .int .u8 (a 2), .int .u8 (a 3), .int .u8 (a 4), .int .u8 (a 5), .int .u8 (a 6), .int .u8 (a 7)] 22)) b 22
  have e : (w.alloc (.cells #[.int .u8 (a 0), .int .u8 (a 1), .int .u8 (a 2), .int .u8 (a 3), .int .u8 (a 4), .int .u8 (a 5), .int .u8 (a 6), .int .u8 (a 7)] 22)).heap.size = w.heap.size + 1 := by simp
  rw [e] at h
  exact h

theorem Cells8.below {w w' : World} {g : Nat} {z : Nat → Int} (h : Cells8 w g z) (hb : Below w.heap.size w w') : Cells8 w' g z :=
  fun k hk => (hb.cell (block_lt_of_cell (h k hk))).trans (h k hk)

theorem eight_cells {w : World} {g : Nat} {f : Nat → Int} (h : Cells8 w g f) :
    w.cell? ⟨g, 0, none⟩ = some (.int .u8 (f 0)) ∧ w.cell? ⟨g, 1, none⟩ = some (.int .u8 (f 1)) ∧ w.cell? ⟨g, 2, none⟩ = some (.int .u8 (f 2)) ∧ w.cell? ⟨g, 3, none⟩ = some (.int .u8 (f 3)) ∧
    w.cell? ⟨g, 4, none⟩ = some (.int .u8 (f 4)) ∧ w.cell? ⟨g, 5, none⟩ = some (.int .u8 (f 5)) ∧ w.cell? ⟨g, 6, none⟩ = some (.int .u8 (f 6)) ∧ w.cell? ⟨g, 7, none⟩ = some (.int .u8 (f 7)) :=
  ⟨h 0 (by decide), h 1 (by decide), h 2 (by decide), h 3 (by decide), h 4 (by decide), h 5 (by decide), h 6 (by decide), h 7 (by decide)⟩

set_option maxHeartbeats 2000000 in
theorem order_walk (a b : Nat → Int) (w : World) (ha : Bytes8 a) (hb : Bytes8 b) :
    Calls Try.prog 4 #[arr8 a, arr8 b] w fun e w' => e = .returned (.bool true) ∧ Below w.heap.size w w' := by
  have HA : Hid (Bytes8 a) := ha
  have HB : Hid (Bytes8 b) := hb
  clear ha hb
  go_enter Try.func4, Try.ntmps4
  go_wp2_with fail
  refine (int64_any a _ HA.out).mono ?_
  rintro e w1 ⟨rfl, hb1⟩
  have hb0 : Below w.heap.size w ((w.alloc (.cells #[.int .u8 (a 0), .int .u8 (a 1), .int .u8 (a 2), .int .u8 (a 3), .int .u8 (a 4), .int .u8 (a 5), .int .u8 (a 6), .int .u8 (a 7)] 22)).alloc (.cells #[.int .u8 (b 0), .int .u8 (b 1), .int .u8 (b 2), .int .u8 (b 3), .int .u8 (b 4), .int .u8 (b 5), .int .u8 (b 6), .int .u8 (b 7)] 22)) :=
    ((Below.refl _ _).alloc (Nat.le_refl _) _).alloc (by simp) _
  have H1 : Hid (Below w.heap.size w w1 ∧ Cells8 w1 w.heap.size a ∧ Cells8 w1 (w.heap.size + 1) b) := ⟨hb0.trans (hb1.mono hb0.size), (two_arrays w a b).1.below hb1, (two_arrays w a b).2.below hb1⟩
  clear hb0 hb1
  obtain ⟨a0, a1, a2, a3, a4, a5, a6, a7⟩ := eight_cells H1.out.2.2
  go_wp2_with fail
  refine (int64_any b _ HB.out).mono ?_
  rintro e w2 ⟨rfl, hb2⟩
  have H2 : Hid (Below w.heap.size w w2 ∧ Cells8 w2 w.heap.size a ∧ Cells8 w2 (w.heap.size + 1) b) := ⟨H1.out.1.trans (hb2.mono H1.out.1.size), H1.out.2.1.below hb2, H1.out.2.2.below hb2⟩
  clear a0 a1 a2 a3 a4 a5 a6 a7 hb2 H1
  go_wp2
  go_loop [7, 8, 9] (fun l s j => ∃ k : Nat, k ≤ 8 ∧ l = .bool false ∧ s = .bool true ∧ j = .int .i64 k ∧ Hid (∀ r, r < k → flipZ a r = flipZ b r)) (fun _ _ j => 8 - (intOf j).toNat)
  case atStart => exact ⟨0, Nat.zero_le _, rfl, rfl, rfl, fun r hr => absurd hr (Nat.not_lt_zero _)⟩
  case round =>
    obtain ⟨k, hk, rfl, rfl, rfl, HE⟩ := hrel
    by_cases hlt : k < 8
    · have c1 := H2.out.2.1 k hlt
      have c2 := H2.out.2.2 k hlt
      have c3 := H2.out.2.1 0 (by decide)
      have q0 : (0 : Int) ≤ (k : Int) := by omega
      have q1 : (k : Int) < 8 := by omega
      by_cases hd : flipZ a k = flipZ b k
      · by_cases h0 : k = 0
        · subst h0
          have d1 : (bits .xor .u8 (a 0) 128 != bits .xor .u8 (b 0) 128) = false := by
            have : bits .xor .u8 (a 0) 128 = bits .xor .u8 (b 0) 128 := hd
            simp [this]
          have HD : Hid (flipZ a 0 = flipZ b 0) := hd
          clear hd
          go_wp2
          go_round
          case rel =>
            refine ⟨1, by omega, rfl, rfl, rfl, fun r hr => ?_⟩
            obtain rfl : r = 0 := by omega
            exact HD.out
          case measure => simp [intOf]
        · have z0 : ((k : Int) == 0) = false := by rw [beq_eq_false_iff_ne]; omega
          have d1 : (a k != b k) = false := by
            have : a k = b k := (flip_inj HA.out HB.out k hlt).1 hd
            simp [this]
          have HD : Hid (flipZ a k = flipZ b k) := hd
          clear hd h0
          go_wp2
          go_round
          case rel =>
            refine ⟨k + 1, by omega, rfl, rfl, by go_num, fun r hr => ?_⟩
            by_cases e : r = k
            · subst e; exact HD.out
            · exact HE.out r (by omega)
          case measure => simp [intOf]; omega
      · have ho := order_at HA.out HB.out k hlt HE.out hd
        have hn := neg_iff HA.out
        have hxy : (sgn a == sgn b) = false := by simpa using ho.2
        have ho1 := ho.1
        have hne := ho.2
        clear ho
        by_cases h0 : k = 0
        · subst h0
          have e1 : flipZ a 0 = bits .xor .u8 (a 0) 128 := rfl
          have e2 : flipZ b 0 = bits .xor .u8 (b 0) 128 := rfl
          rw [e1, e2] at hd ho1
          have d1 : (bits .xor .u8 (a 0) 128 != bits .xor .u8 (b 0) 128) = true := by simpa using hd
          clear e1 e2 hd
          have hcase : (bits .xor .u8 (a 0) 128 < bits .xor .u8 (b 0) 128 ∧ sgn a < sgn b) ∨ (bits .xor .u8 (b 0) 128 ≤ bits .xor .u8 (a 0) 128 ∧ sgn b < sgn a) := by omega
          have hcase2 : (sgn a < 0 ∧ 128 ≤ a 0) ∨ (0 ≤ sgn a ∧ a 0 < 128) := by omega
          clear ho1 hne hn
          generalize sgn a = x at *
          generalize sgn b = y at *
          rcases hcase with ⟨u1, u2⟩ | ⟨u1, u2⟩ <;> rcases hcase2 with ⟨u3, u4⟩ | ⟨u3, u4⟩
          all_goals
            go_wp2
            go_ret
            exact ⟨by simp <;> omega, H2.out.1⟩
        · have z0 : ((k : Int) == 0) = false := by rw [beq_eq_false_iff_ne]; omega
          have e1 : flipZ a k = a k := by unfold flipZ; rw [if_neg h0]
          have e2 : flipZ b k = b k := by unfold flipZ; rw [if_neg h0]
          rw [e1, e2] at hd ho1
          have d1 : (a k != b k) = true := by simpa using hd
          clear e1 e2 hd h0
          have hcase : (a k < b k ∧ sgn a < sgn b) ∨ (b k ≤ a k ∧ sgn b < sgn a) := by omega
          have hcase2 : (sgn a < 0 ∧ 128 ≤ a 0) ∨ (0 ≤ sgn a ∧ a 0 < 128) := by omega
          clear ho1 hne hn
          generalize sgn a = x at *
          generalize sgn b = y at *
          rcases hcase with ⟨u1, u2⟩ | ⟨u1, u2⟩ <;> rcases hcase2 with ⟨u3, u4⟩ | ⟨u3, u4⟩
          all_goals
            go_wp2
            go_ret
            exact ⟨by simp <;> omega, H2.out.1⟩
    · obtain rfl : k = 8 := by omega
      have c3 := H2.out.2.1 0 (by decide)
      have hs := order_same HA.out HB.out HE.out
      have hn := neg_iff HA.out
      have hcase2 : (sgn a < 0 ∧ 128 ≤ a 0) ∨ (0 ≤ sgn a ∧ a 0 < 128) := by omega
      rw [← hs]
      clear hs hn HE
      generalize sgn a = x at *
      rcases hcase2 with ⟨u3, u4⟩ | ⟨u3, u4⟩
      all_goals
        go_wp2
        go_ret
        exact ⟨by simp <;> omega, H2.out.1⟩
end Go.Proofs.Qxb6613276a
