/-
  FnReadsOfSplitAndLeastCover: the walk.
-/
import Derived.Test.Qxb6614055aReads
namespace Go.Proofs.Qxb6614055a
open Go.RowKit Go.Deep

/-- zzBytes_FnReadsOfSplitAndLeastCover. -/
theorem zz10_any (ao : Option Addr) (n c : Nat) (k : Int) (w : World) (hn : n ≤ 9223372036854775807) :
    Calls Try.prog 10 #[.slice ao n c, .int .i64 k] w fun e w' => e = .returned (.bool (decide (n ≤ 1048576))) ∧ w' = w := by
  by_cases h : n ≤ 1048576
  · have hd : decide (n ≤ 1048576) = true := by simpa using h
    rw [hd]
    clear hd
    go_enter Try.func10, Try.ntmps10
    go_wp2
    go_ret
    exact ⟨rfl, rfl⟩
  · have hd : decide (n ≤ 1048576) = false := by simpa using h
    rw [hd]
    clear hd
    go_enter Try.func10, Try.ntmps10
    go_wp2
    go_ret
    exact ⟨rfl, rfl⟩

/-- What is known of the words that came in. -/
def Words (w : World) (ao : Option Addr) (n : Nat) (x : Nat → Nat) : Prop :=
  (ao = none → n = 0) ∧ (∀ a, ao = some a → ∀ k, k < n → w.cell? (a.add k) = some (.int .u32 (x k))) ∧ ∀ k, k < n → x k < 4294967296

theorem Words.below {w w' : World} {ao : Option Addr} {n : Nat} {x : Nat → Nat} (h : Words w ao n x) (hb : Below w.heap.size w w') : Words w' ao n x :=
  ⟨h.1, fun a ha k hk => (hb.cell (block_lt_of_cell (h.2.1 a ha k hk))).trans (h.2.1 a ha k hk), h.2.2⟩

set_option maxHeartbeats 4000000 in
theorem cover_lt (ao : Option Addr) (n c k : Nat) (x : Nat → Nat) (w : World) (hn : n ≤ 65536) (hk : k < n) (hnil : ao = none → n = 0 ∧ c = 0) (hw : Words w ao n x) :
    Calls Try.prog 3 #[.slice ao n c, .int .i64 k] w fun e w' => e = .returned (.bool true) ∧ Below w.heap.size w w' := by
  have HW : Hid (Words w ao n x) := hw
  have HN : Hid (ao = none → n = 0 ∧ c = 0) := hnil
  have t0 : decide ((65536 : Int) < (n : Int)) = false := by simp; omega
  have t1 : decide ((k : Int) < 0) = false := by simp
  have t2 : decide ((n : Int) < (k : Int)) = false := by simp; omega
  have k0 : (0 : Int) ≤ (k : Int) := by omega
  have k1 : (k : Int) ≤ (n : Int) := by omega
  clear hw hnil
  go_enter Try.func3, Try.ntmps3
  go_wp2_with fail
  refine (zz10_any ao n c k _ (by omega)).mono ?_
  rintro e w1 ⟨rfl, rfl⟩
  have hd : decide (n ≤ 1048576) = true := by simp; omega
  rw [hd]
  clear hd
  go_wp2_with fail
  refine (zzOps_any ao n c x _ hn HN.out HW.out.2.1).mono ?_
  rintro e w2 ⟨rfl, hb2, hrow⟩
  have HB2 : Hid (Below w1.heap.size w1 w2) := hb2
  have HR : Hid (0 < n → w2.rowIs w1.heap.size 33 (n * 4) (opCell x)) := hrow
  clear hb2 hrow
  go_wp2_with fail
  have o1 : OpsAt w2 (some ⟨w1.heap.size, 0, none⟩) n x := by
    have := opsAt_part (s := 0) (m := n) HR.out (by omega) (some ⟨w1.heap.size, 0, none⟩) (fun _ => by simp)
    simpa using this
  refine (zzreads_any (some ⟨w1.heap.size, 0, none⟩) n n x _ (by omega) HW.out.2.2 o1).mono ?_
  rintro e w3 ⟨rfl, hb3⟩
  have HB3 : Hid (Below w2.heap.size w2 w3) := hb3
  clear hb3 o1
  go_wp2_with fail
  have o2 : OpsAt w3 (some ⟨w1.heap.size, 0, none⟩) k x := by
    have := opsAt_part (s := 0) (m := k) HR.out (by omega) (some ⟨w1.heap.size, 0, none⟩) (fun _ => by simp)
    exact OpsAt.below (by simpa using this) HB3.out
  refine (zzreads_any (some ⟨w1.heap.size, 0, none⟩) k n x _ (by omega) (fun j hj => HW.out.2.2 j (by omega)) o2).mono ?_
  rintro e w4 ⟨rfl, hb4⟩
  have HB4 : Hid (Below w3.heap.size w3 w4) := hb4
  clear hb4 o2
  go_wp2_with fail
  have o3 : OpsAt w4 (some ⟨w1.heap.size, k * 4, none⟩) (n - k) (fun j => x (k + j)) := by
    have := opsAt_part (s := k) (m := n - k) HR.out (by omega) (some ⟨w1.heap.size, k * 4, none⟩) (fun _ => rfl)
    exact (this.below HB3.out).below HB4.out
  refine (zzreads_any (some ⟨w1.heap.size, k * 4, none⟩) (n - k) (n - k) (fun j => x (k + j)) _ (by omega) (fun j hj => HW.out.2.2 (k + j) (by omega)) o3).mono ?_
  rintro e w5 ⟨rfl, hb5⟩
  have hor : bits .or .u32 ((orF x k : Nat) : Int) ((orF (fun j => x (k + j)) (n - k) : Nat) : Int) = ((orF x n : Nat) : Int) := by
    rw [u32_or_nat _ _ (orF_lt HW.out.2.2 k (by omega)) (orF_lt (n := n - k) (fun j hj => HW.out.2.2 (k + j) (by omega)) _ (Nat.le_refl _)), ← orF_split x k (n - k), show k + (n - k) = n from by omega]
  have HB : Hid (Below w1.heap.size w1 w5) := ((HB2.out.trans (HB3.out.mono HB2.out.size)).trans (HB4.out.mono (Nat.le_trans HB2.out.size HB3.out.size))).trans (hb5.mono (Nat.le_trans HB2.out.size (Nat.le_trans HB3.out.size HB4.out.size)))
  have HW5 : Hid (Words w5 ao n x) := HW.out.below HB.out
  have HC : Hid (∀ i, i < n → bits .andNot .u32 (x i : Int) (orF x n : Int) = 0) := fun i hi => by
    rw [u32_andNot_nat _ _ (HW.out.2.2 i hi) (orF_lt HW.out.2.2 n (Nat.le_refl _)), orF_cover HW.out.2.2 i hi]
    rfl
  have HM : Hid (∀ t, orF x n &&& t ≠ 0 → ∃ i, i < n ∧ x i &&& t ≠ 0) := fun t => orF_meets x t n
  have hWn := orF_lt HW.out.2.2 n (Nat.le_refl _)
  clear o3 hb5 HB2 HB3 HB4 HR HW HN
  generalize orF x k = Lf at *
  generalize orF (fun j => x (k + j)) (n - k) = Rt at *
  generalize orF x n = Wn at *
  go_wp2
  go_loop [9] (fun v => ∃ i : Nat, i ≤ n ∧ v = .int .i64 i) (fun v => n - (intOf v).toNat)
  case atStart => exact ⟨0, Nat.zero_le _, rfl⟩
  case round =>
    obtain ⟨i, hi, rfl⟩ := hrel
    by_cases hlt : i < n
    · obtain ⟨a, ha⟩ : ∃ a, ao = some a := by
        cases ao with
        | none => exact absurd (HW5.out.1 rfl) (by omega)
        | some a => exact ⟨a, rfl⟩
      subst ha
      have c1 := HW5.out.2.1 a rfl i hlt
      have hz := HC.out i hlt
      have i1 : (0 : Int) ≤ (i : Int) := by omega
      have i2 : (i : Int) < (n : Int) := by omega
      go_wp2
      go_round
      case rel => exact ⟨i + 1, by omega, by go_num⟩
      case measure => simp [intOf]; omega
    · go_wp2
      go_loop [10] (fun v => ∃ q : Nat, q ≤ 32 ∧ v = .int .u64 q) (fun v => 32 - (intOf v).toNat)
      case atStart => exact ⟨0, Nat.zero_le _, rfl⟩
      case round =>
        obtain ⟨q, hq, rfl⟩ := hrel
        by_cases hq8 : q < 32
        · have q1 : (0 : Int) ≤ (q : Int) := by omega
          have q2 : (q : Int) < 32 := by omega
          obtain ⟨tq, htq, hlt32⟩ : ∃ tq : Nat, (2 : Int) ^ q % 4294967296 = (tq : Int) ∧ tq < 4294967296 := by
            refine ⟨((2 : Int) ^ q % 4294967296).toNat, ?_, ?_⟩
            · rw [Int.toNat_of_nonneg (Int.emod_nonneg _ (by decide))]
            · have := Int.emod_lt_of_pos ((2 : Int) ^ q) (show (0 : Int) < 4294967296 from by decide)
              omega
          have hand := u32_and_nat Wn tq hWn hlt32
          by_cases g : Wn &&& tq = 0
          · have d1 : (bits .and .u32 (Wn : Int) (tq : Int) == 0) = true := by rw [hand, g]; rfl
            clear hand g
            go_wp2
            go_round
            case rel => exact ⟨q + 1, by omega, by go_num⟩
            case measure => simp [intOf]; omega
          · have d1 : (bits .and .u32 (Wn : Int) (tq : Int) == 0) = false := by
              rw [hand, beq_eq_false_iff_ne]
              omega
            have G : Hid (∃ i, i < n ∧ x i &&& tq ≠ 0) := HM.out tq g
            clear hand g
            go_wp2
            go_loop [12, 13] (fun s v => ∃ (i : Nat) (b : Bool), i ≤ n ∧ s = .bool b ∧ v = .int .i64 i ∧ Hid (b = false → ∀ r, r < i → x r &&& tq = 0)) (fun _ v => n - (intOf v).toNat)
            case atStart => exact ⟨0, false, Nat.zero_le _, rfl, rfl, fun _ r hr => absurd hr (Nat.not_lt_zero _)⟩
            case round =>
              obtain ⟨i2, b, hi2, rfl, rfl, HS⟩ := hrel
              cases b with
              | true =>
                by_cases hlt2 : i2 < n
                all_goals
                  go_wp2
                  go_round
                  case rel => exact ⟨q + 1, by omega, by go_num⟩
                  case measure => simp [intOf]; omega
              | false =>
                by_cases hlt2 : i2 < n
                · obtain ⟨a, ha⟩ : ∃ a, ao = some a := by
                    cases ao with
                    | none => exact absurd (HW5.out.1 rfl) (by omega)
                    | some a => exact ⟨a, rfl⟩
                  subst ha
                  have c1 := HW5.out.2.1 a rfl i2 hlt2
                  have hand2 := u32_and_nat (x i2) tq (HW5.out.2.2 i2 hlt2) hlt32
                  have i1 : (0 : Int) ≤ (i2 : Int) := by omega
                  have i3 : (i2 : Int) < (n : Int) := by omega
                  by_cases g2 : x i2 &&& tq = 0
                  · have d2 : (bits .and .u32 (x i2 : Int) (tq : Int) != 0) = false := by rw [hand2, g2]; rfl
                    have G2 : Hid (x i2 &&& tq = 0) := g2
                    clear hand2 g2
                    go_wp2
                    go_round
                    case rel =>
                      refine ⟨i2 + 1, false, by omega, rfl, by go_num, fun _ r hr => ?_⟩
                      by_cases e : r = i2
                      · subst e; exact G2.out
                      · exact HS.out rfl r (by omega)
                    case measure => simp [intOf]; omega
                  · have d2 : (bits .and .u32 (x i2 : Int) (tq : Int) != 0) = true := by
                      rw [hand2, bne_iff_ne]
                      omega
                    clear hand2 g2
                    go_wp2
                    go_round
                    case rel => exact ⟨i2 + 1, true, by omega, rfl, by go_num, (fun h => by cases h)⟩
                    case measure => simp [intOf]; omega
                · obtain ⟨i4, h4, h5⟩ := G.out
                  exact absurd (HS.out rfl i4 (by omega)) h5
        · go_wp2
          go_ret
          exact ⟨rfl, HB.out⟩

set_option maxHeartbeats 4000000 in
theorem cover_eq (ao : Option Addr) (n c : Nat) (x : Nat → Nat) (w : World) (hn : n ≤ 65536) (hnil : ao = none → n = 0 ∧ c = 0) (hw : Words w ao n x) :
    Calls Try.prog 3 #[.slice ao n c, .int .i64 n] w fun e w' => e = .returned (.bool true) ∧ Below w.heap.size w w' := by
  have HW : Hid (Words w ao n x) := hw
  have HN : Hid (ao = none → n = 0 ∧ c = 0) := hnil
  have t0 : decide ((65536 : Int) < (n : Int)) = false := by simp; omega
  have t1 : decide ((n : Int) < 0) = false := by simp
  have t2 : decide ((n : Int) < (n : Int)) = false := by simp
  have k0 : (0 : Int) ≤ (n : Int) := by omega
  have k1 : (n : Int) ≤ (n : Int) := by omega
  clear hw hnil
  go_enter Try.func3, Try.ntmps3
  go_wp2_with fail
  refine (zz10_any ao n c n _ (by omega)).mono ?_
  rintro e w1 ⟨rfl, rfl⟩
  have hd : decide (n ≤ 1048576) = true := by simp; omega
  rw [hd]
  clear hd
  go_wp2_with fail
  refine (zzOps_any ao n c x _ hn HN.out HW.out.2.1).mono ?_
  rintro e w2 ⟨rfl, hb2, hrow⟩
  have HB2 : Hid (Below w1.heap.size w1 w2) := hb2
  have HR : Hid (0 < n → w2.rowIs w1.heap.size 33 (n * 4) (opCell x)) := hrow
  clear hb2 hrow
  go_wp2_with fail
  have o1 : OpsAt w2 (some ⟨w1.heap.size, 0, none⟩) n x := by
    have := opsAt_part (s := 0) (m := n) HR.out (by omega) (some ⟨w1.heap.size, 0, none⟩) (fun _ => by simp)
    simpa using this
  refine (zzreads_any (some ⟨w1.heap.size, 0, none⟩) n n x _ (by omega) HW.out.2.2 o1).mono ?_
  rintro e w3 ⟨rfl, hb3⟩
  have HB3 : Hid (Below w2.heap.size w2 w3) := hb3
  clear hb3 o1
  go_wp2_with fail
  have o2 : OpsAt w3 (some ⟨w1.heap.size, 0, none⟩) n x := by
    have := opsAt_part (s := 0) (m := n) HR.out (by omega) (some ⟨w1.heap.size, 0, none⟩) (fun _ => by simp)
    exact OpsAt.below (by simpa using this) HB3.out
  refine (zzreads_any (some ⟨w1.heap.size, 0, none⟩) n n x _ (by omega) (fun j hj => HW.out.2.2 j (by omega)) o2).mono ?_
  rintro e w4 ⟨rfl, hb4⟩
  have HB4 : Hid (Below w3.heap.size w3 w4) := hb4
  clear hb4 o2
  go_wp2_with fail
  have o3 : OpsAt w4 (some ⟨w1.heap.size, 0, none⟩) 0 (fun j => x (n + j)) := fun h => absurd h (Nat.lt_irrefl _)
  refine (zzreads_any (some ⟨w1.heap.size, 0, none⟩) 0 0 (fun j => x (n + j)) _ (by omega) (fun j hj => absurd hj (Nat.not_lt_zero _)) o3).mono ?_
  rintro e w5 ⟨rfl, hb5⟩
  have hor : bits .or .u32 ((orF x n : Nat) : Int) ((orF (fun j => x (n + j)) 0 : Nat) : Int) = ((orF x n : Nat) : Int) := by
    rw [u32_or_nat _ _ (orF_lt HW.out.2.2 n (by omega)) (by simp [orF]), ← orF_split x n 0, Nat.add_zero]
  have HB : Hid (Below w1.heap.size w1 w5) := ((HB2.out.trans (HB3.out.mono HB2.out.size)).trans (HB4.out.mono (Nat.le_trans HB2.out.size HB3.out.size))).trans (hb5.mono (Nat.le_trans HB2.out.size (Nat.le_trans HB3.out.size HB4.out.size)))
  have HW5 : Hid (Words w5 ao n x) := HW.out.below HB.out
  have HC : Hid (∀ i, i < n → bits .andNot .u32 (x i : Int) (orF x n : Int) = 0) := fun i hi => by
    rw [u32_andNot_nat _ _ (HW.out.2.2 i hi) (orF_lt HW.out.2.2 n (Nat.le_refl _)), orF_cover HW.out.2.2 i hi]
    rfl
  have HM : Hid (∀ t, orF x n &&& t ≠ 0 → ∃ i, i < n ∧ x i &&& t ≠ 0) := fun t => orF_meets x t n
  have hWn := orF_lt HW.out.2.2 n (Nat.le_refl _)
  clear o3 hb5 HB2 HB3 HB4 HR HW HN
  generalize orF (fun j => x (n + j)) 0 = Rt at *
  generalize orF x n = Wn at *
  go_wp2
  go_loop [9] (fun v => ∃ i : Nat, i ≤ n ∧ v = .int .i64 i) (fun v => n - (intOf v).toNat)
  case atStart => exact ⟨0, Nat.zero_le _, rfl⟩
  case round =>
    obtain ⟨i, hi, rfl⟩ := hrel
    by_cases hlt : i < n
    · obtain ⟨a, ha⟩ : ∃ a, ao = some a := by
        cases ao with
        | none => exact absurd (HW5.out.1 rfl) (by omega)
        | some a => exact ⟨a, rfl⟩
      subst ha
      have c1 := HW5.out.2.1 a rfl i hlt
      have hz := HC.out i hlt
      have i1 : (0 : Int) ≤ (i : Int) := by omega
      have i2 : (i : Int) < (n : Int) := by omega
      go_wp2
      go_round
      case rel => exact ⟨i + 1, by omega, by go_num⟩
      case measure => simp [intOf]; omega
    · go_wp2
      go_loop [10] (fun v => ∃ q : Nat, q ≤ 32 ∧ v = .int .u64 q) (fun v => 32 - (intOf v).toNat)
      case atStart => exact ⟨0, Nat.zero_le _, rfl⟩
      case round =>
        obtain ⟨q, hq, rfl⟩ := hrel
        by_cases hq8 : q < 32
        · have q1 : (0 : Int) ≤ (q : Int) := by omega
          have q2 : (q : Int) < 32 := by omega
          obtain ⟨tq, htq, hlt32⟩ : ∃ tq : Nat, (2 : Int) ^ q % 4294967296 = (tq : Int) ∧ tq < 4294967296 := by
            refine ⟨((2 : Int) ^ q % 4294967296).toNat, ?_, ?_⟩
            · rw [Int.toNat_of_nonneg (Int.emod_nonneg _ (by decide))]
            · have := Int.emod_lt_of_pos ((2 : Int) ^ q) (show (0 : Int) < 4294967296 from by decide)
              omega
          have hand := u32_and_nat Wn tq hWn hlt32
          by_cases g : Wn &&& tq = 0
          · have d1 : (bits .and .u32 (Wn : Int) (tq : Int) == 0) = true := by rw [hand, g]; rfl
            clear hand g
            go_wp2
            go_round
            case rel => exact ⟨q + 1, by omega, by go_num⟩
            case measure => simp [intOf]; omega
          · have d1 : (bits .and .u32 (Wn : Int) (tq : Int) == 0) = false := by
              rw [hand, beq_eq_false_iff_ne]
              omega
            have G : Hid (∃ i, i < n ∧ x i &&& tq ≠ 0) := HM.out tq g
            clear hand g
            go_wp2
            go_loop [12, 13] (fun s v => ∃ (i : Nat) (b : Bool), i ≤ n ∧ s = .bool b ∧ v = .int .i64 i ∧ Hid (b = false → ∀ r, r < i → x r &&& tq = 0)) (fun _ v => n - (intOf v).toNat)
            case atStart => exact ⟨0, false, Nat.zero_le _, rfl, rfl, fun _ r hr => absurd hr (Nat.not_lt_zero _)⟩
            case round =>
              obtain ⟨i2, b, hi2, rfl, rfl, HS⟩ := hrel
              cases b with
              | true =>
                by_cases hlt2 : i2 < n
                all_goals
                  go_wp2
                  go_round
                  case rel => exact ⟨q + 1, by omega, by go_num⟩
                  case measure => simp [intOf]; omega
              | false =>
                by_cases hlt2 : i2 < n
                · obtain ⟨a, ha⟩ : ∃ a, ao = some a := by
                    cases ao with
                    | none => exact absurd (HW5.out.1 rfl) (by omega)
                    | some a => exact ⟨a, rfl⟩
                  subst ha
                  have c1 := HW5.out.2.1 a rfl i2 hlt2
                  have hand2 := u32_and_nat (x i2) tq (HW5.out.2.2 i2 hlt2) hlt32
                  have i1 : (0 : Int) ≤ (i2 : Int) := by omega
                  have i3 : (i2 : Int) < (n : Int) := by omega
                  by_cases g2 : x i2 &&& tq = 0
                  · have d2 : (bits .and .u32 (x i2 : Int) (tq : Int) != 0) = false := by rw [hand2, g2]; rfl
                    have G2 : Hid (x i2 &&& tq = 0) := g2
                    clear hand2 g2
                    go_wp2
                    go_round
                    case rel =>
                      refine ⟨i2 + 1, false, by omega, rfl, by go_num, fun _ r hr => ?_⟩
                      by_cases e : r = i2
                      · subst e; exact G2.out
                      · exact HS.out rfl r (by omega)
                    case measure => simp [intOf]; omega
                  · have d2 : (bits .and .u32 (x i2 : Int) (tq : Int) != 0) = true := by
                      rw [hand2, bne_iff_ne]
                      omega
                    clear hand2 g2
                    go_wp2
                    go_round
                    case rel => exact ⟨i2 + 1, true, by omega, rfl, by go_num, (fun h => by cases h)⟩
                    case measure => simp [intOf]; omega
                · obtain ⟨i4, h4, h5⟩ := G.out
                  exact absurd (HS.out rfl i4 (by omega)) h5
        · go_wp2
          go_ret
          exact ⟨rfl, HB.out⟩

/-- Whatever the cut. -/
theorem cover_any (ao : Option Addr) (n c : Nat) (k : Int) (x : Nat → Nat) (w : World) (hn : n ≤ 9223372036854775807) (hnil : ao = none → n = 0 ∧ c = 0) (hw : Words w ao n x) :
    Calls Try.prog 3 #[.slice ao n c, .int .i64 k] w fun e w' => e = .returned (.bool true) ∧ Below w.heap.size w w' := by
  by_cases h1 : n ≤ 65536
  · by_cases h2 : 0 ≤ k
    · obtain ⟨q, rfl⟩ := Int.eq_ofNat_of_zero_le h2
      by_cases h3 : q < n
      · exact cover_lt ao n c q x w h1 h3 hnil hw
      · by_cases h4 : q = n
        · subst h4
          exact cover_eq ao q c x w h1 hnil hw
        · have hd : decide (n ≤ 1048576) = true := by simp; omega
          have h5 : (n : Int) < (q : Int) := by omega
          clear hw hnil h4 h3
          go_enter Try.func3, Try.ntmps3
          go_wp2_with fail
          refine (zz10_any ao n c q _ hn).mono ?_
          rintro e w1 ⟨rfl, rfl⟩
          rw [hd]
          go_wp2
          go_ret
          exact ⟨rfl, Below.refl _ _⟩
    · have hd : decide (n ≤ 1048576) = true := by simp; omega
      clear hw hnil
      go_enter Try.func3, Try.ntmps3
      go_wp2_with fail
      refine (zz10_any ao n c k _ hn).mono ?_
      rintro e w1 ⟨rfl, rfl⟩
      rw [hd]
      go_wp2
      go_ret
      exact ⟨rfl, Below.refl _ _⟩
  · clear hw hnil
    go_enter Try.func3, Try.ntmps3
    go_wp2_with fail
    refine (zz10_any ao n c k _ hn).mono ?_
    rintro e w1 ⟨rfl, rfl⟩
    cases decide (n ≤ 1048576)
    all_goals
      go_wp2
      go_ret
      exact ⟨rfl, Below.refl _ _⟩
end Go.Proofs.Qxb6614055a
