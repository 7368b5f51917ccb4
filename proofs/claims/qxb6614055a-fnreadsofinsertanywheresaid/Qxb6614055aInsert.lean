/-
  FnReadsOfInsertAnywhere: the walk.
-/
import Derived.Test.Qxb6614055aReads
namespace Go.Proofs.Qxb6614055a
open Go.RowKit Go.Deep

/-- zzBytes_FnReadsOfInsertAnywhere. -/
theorem zz13_any (ao : Option Addr) (n c : Nat) (i v : Int) (w : World) (hn : n ≤ 9223372036854775807) :
    Calls Try.prog 13 #[.slice ao n c, .int .i64 i, .int .u32 v] w fun e w' => e = .returned (.bool (decide (n ≤ 1048576))) ∧ w' = w := by
  by_cases h : n ≤ 1048576
  · have hd : decide (n ≤ 1048576) = true := by simpa using h
    rw [hd]
    clear hd
    go_enter Try.func13, Try.ntmps13
    go_wp2
    go_ret
    exact ⟨rfl, rfl⟩
  · have hd : decide (n ≤ 1048576) = false := by simpa using h
    rw [hd]
    clear hd
    go_enter Try.func13, Try.ntmps13
    go_wp2
    go_ret
    exact ⟨rfl, rfl⟩

/-- What is known of the words that came in. -/
def Words (w : World) (ao : Option Addr) (n : Nat) (x : Nat → Nat) : Prop :=
  (ao = none → n = 0) ∧ (∀ a, ao = some a → ∀ k, k < n → w.cell? (a.add k) = some (.int .u32 (x k))) ∧ ∀ k, k < n → x k < 4294967296

theorem Words.below {w w' : World} {ao : Option Addr} {n : Nat} {x : Nat → Nat} (h : Words w ao n x) (hb : Below w.heap.size w w') : Words w' ao n x :=
  ⟨h.1, fun a ha k hk => (hb.cell (block_lt_of_cell (h.2.1 a ha k hk))).trans (h.2.1 a ha k hk), h.2.2⟩

/-- What one round does to the new row. -/
theorem put_step {w wr : World} {n i v j u : Nat} {x : Nat → Nat} (hrow : wr.rowIs w.heap.size 33 ((n + 1) * 4) (opCell fun r => if r < j then putIn x i v r else 0)) (hu : u = putIn x i v j) (o : Obj) :
    (((((wr.setCell ⟨w.heap.size, j * 4, none⟩ .nilFunc).setCell ⟨w.heap.size, j * 4 + 1, none⟩ (.int .u8 0)).setCell ⟨w.heap.size, j * 4 + 2, none⟩ (.bool false)).setCell ⟨w.heap.size, j * 4 + 3, none⟩ (.int .u32 u)).alloc o).rowIs w.heap.size 33 ((n + 1) * 4) (opCell fun r => if r < j + 1 then putIn x i v r else 0) := by
  subst hu
  refine (op_store hrow (putIn x i v j) o).congr (opCell_congr ?_)
  intro r hr
  by_cases e : r = j
  · subst e; simp
  · by_cases e2 : r < j
    · simp [e, e2, show r < j + 1 from by omega]
    · simp [e, e2, show ¬ r < j + 1 from by omega]

set_option maxHeartbeats 4000000 in
theorem insert_walk (ao : Option Addr) (n c i v : Nat) (x : Nat → Nat) (w : World) (hn : n ≤ 65536) (hi : i ≤ n) (hv : v < 4294967296) (hnil : ao = none → n = 0 ∧ c = 0) (hw : Words w ao n x) :
    Calls Try.prog 4 #[.slice ao n c, .int .i64 i, .int .u32 v] w fun e w' => e = .returned (.bool true) ∧ Below w.heap.size w w' := by
  have HW : Hid (Words w ao n x) := hw
  have HN : Hid (ao = none → n = 0 ∧ c = 0) := hnil
  have t0 : decide ((65536 : Int) < (n : Int)) = false := by simp; omega
  have t1 : decide ((i : Int) < 0) = false := by simp
  have t2 : decide ((n : Int) < (i : Int)) = false := by simp; omega
  have t3 : decide (n < i) = false := by simp; omega
  have k0 : (0 : Int) ≤ (i : Int) := by omega
  have k1 : (i : Int) ≤ (n : Int) := by omega
  have hmk := run_make_ops (n + 1) (by omega)
  rw [show ((n + 1 : Nat) : Int) = (n : Int) + 1 from by omega] at hmk
  clear hw hnil
  go_enter Try.func4, Try.ntmps4
  go_wp2_with fail
  refine (zz13_any ao n c i v _ (by omega)).mono ?_
  rintro e w1 ⟨rfl, rfl⟩
  have hd : decide (n ≤ 1048576) = true := by simp; omega
  rw [hd]
  clear hd
  go_wp2_with fail
  go_loopw [8] (fun t wr => ∃ j : Nat, j ≤ n + 1 ∧ t = .int .i64 j ∧ Below w1.heap.size w1 wr ∧ wr.rowIs w1.heap.size 33 ((n + 1) * 4) (opCell fun r => if r < j then putIn x i v r else 0)) (fun t _ => n + 1 - (intOf t).toNat)
  case atStart => exact ⟨0, Nat.zero_le _, rfl, (Below.refl _ _).alloc (Nat.le_refl _) _, rowIs_ops w1 (n + 1)⟩
  case round =>
    obtain ⟨j, hj, rfl, hbel, hrow⟩ := hrel
    have HR : Hid (wr.rowIs w1.heap.size 33 ((n + 1) * 4) (opCell fun r => if r < j then putIn x i v r else 0)) := hrow
    by_cases hlt : j < n + 1
    · obtain ⟨c0, c1, c2, c3⟩ := op_cells hrow hlt
      have f0 := hrow.frozen (j * 4)
      have f1 := hrow.frozen (j * 4 + 1)
      have f2 := hrow.frozen (j * 4 + 1 + 1)
      have f3 := hrow.frozen (j * 4 + 1 + 1 + 1)
      have hsz := hrow.lt
      have j1 : (0 : Int) ≤ (j : Int) := by omega
      have j2 : (j : Int) < (n : Int) + 1 := by omega
      clear hrow
      rcases (show j < i ∨ j = i ∨ i < j from by omega) with hji | hji | hji
      · obtain ⟨a, ha⟩ : ∃ a, ao = some a := by
          cases ao with
          | none => exact absurd (HW.out.1 rfl) (by omega)
          | some a => exact ⟨a, rfl⟩
        subst ha
        have d := HW.out.2.1 a rfl j (by omega)
        have hc := (hbel.cell (block_lt_of_cell d)).trans d
        have j3 : (j : Int) < (n : Int) := by omega
        clear d
        go_wp2_with (go_at_call 14; refine (newOp_any _ _).mono ?_; rintro e w' ⟨rfl, rfl⟩)
        go_roundw
        case rel =>
          exact ⟨j + 1, by omega, by go_num, op_store_below hbel (Nat.le_refl _) (by omega) _, put_step HR.out (by unfold putIn; rw [if_pos hji]) _⟩
        case measure => simp [intOf]; omega
      · have z1 : ((j : Int) == (i : Int)) = true := by simp [hji]
        have l1 : ¬ (j : Int) < (i : Int) := by omega
        have HJ : Hid (j = i) := hji
        clear hji
        go_wp2_with (go_at_call 14; refine (newOp_any _ _).mono ?_; rintro e w' ⟨rfl, rfl⟩)
        go_roundw
        case rel =>
          exact ⟨j + 1, by omega, by go_num, op_store_below hbel (Nat.le_refl _) (by omega) _, put_step HR.out (by unfold putIn; rw [if_neg (by have := HJ.out; omega), if_pos HJ.out]) _⟩
        case measure => simp [intOf]; omega
      · obtain ⟨a, ha⟩ : ∃ a, ao = some a := by
          cases ao with
          | none => exact absurd (HW.out.1 rfl) (by omega)
          | some a => exact ⟨a, rfl⟩
        subst ha
        have d := HW.out.2.1 a rfl (j - 1) (by omega)
        have hc := (hbel.cell (block_lt_of_cell d)).trans d
        have z1 : ((j : Int) == (i : Int)) = false := by rw [beq_eq_false_iff_ne]; omega
        have l1 : ¬ (j : Int) < (i : Int) := by omega
        clear d
        go_wp2_with (go_at_call 14; refine (newOp_any _ _).mono ?_; rintro e w' ⟨rfl, rfl⟩)
        go_roundw
        case rel =>
          exact ⟨j + 1, by omega, by go_num, op_store_below hbel (Nat.le_refl _) (by omega) _, put_step HR.out (by unfold putIn; rw [if_neg (by omega), if_neg (by omega)]) _⟩
        case measure => simp [intOf]; omega
    · have r1 : wr.rowIs w1.heap.size 33 ((n + 1) * 4) (opCell (putIn x i v)) := hrow.congr (opCell_congr fun r hr => by rw [if_pos (by omega)])
      have HR1 : Hid (wr.rowIs w1.heap.size 33 ((n + 1) * 4) (opCell (putIn x i v))) := r1
      have HBr : Hid (Below w1.heap.size w1 wr) := hbel
      have HX : Hid (∀ r, r < n + 1 → putIn x i v r < 4294967296) := fun r hr => by
        show putIn x i v r < 4294967296
        unfold putIn
        split
        · exact HW.out.2.2 r (by omega)
        · split
          · exact hv
          · exact HW.out.2.2 (r - 1) (by omega)
      clear hrow r1 hbel HR hmk
      go_wp2_with fail
      refine (zzOps_any ao n c x _ hn HN.out (HW.out.below HBr.out).2.1).mono ?_
      rintro e w2 ⟨rfl, hb2, hrow2⟩
      have o2 : OpsAt w2 (some ⟨wr.heap.size, 0, none⟩) n x := by
        have := opsAt_part (s := 0) (m := n) hrow2 (by omega) (some ⟨wr.heap.size, 0, none⟩) (fun _ => by simp)
        simpa using this
      have HB2 : Hid (Below wr.heap.size wr w2) := hb2
      clear hb2 hrow2
      go_wp2_with fail
      refine (zzreads_any (some ⟨wr.heap.size, 0, none⟩) n n x _ (by omega) HW.out.2.2 o2).mono ?_
      rintro e w3 ⟨rfl, hb3⟩
      have HB3 : Hid (Below wr.heap.size wr w3) := HB2.out.trans (hb3.mono HB2.out.size)
      clear hb3 o2 HB2
      go_wp2_with fail
      have o3 : OpsAt w3 (some ⟨w1.heap.size, 0, none⟩) (n + 1) (putIn x i v) := by
        have := opsAt_part (s := 0) (m := n + 1) (fun _ => HR1.out) (by omega) (some ⟨w1.heap.size, 0, none⟩) (fun _ => by simp)
        exact OpsAt.below (by simpa using this) HB3.out
      refine (zzreads_any (some ⟨w1.heap.size, 0, none⟩) (n + 1) (n + 1) (putIn x i v) _ (by omega) HX.out o3).mono ?_
      rintro e w4 ⟨rfl, hb4⟩
      have HB4 : Hid (Below wr.heap.size wr w4) := HB3.out.trans (hb4.mono HB3.out.size)
      clear hb4 o3 HB3
      go_wp2_with fail
      have o4 : OpsAt w4 (some ⟨w1.heap.size, i * 4, none⟩) 1 (fun j => putIn x i v (i + j)) := by
        have := opsAt_part (s := i) (m := 1) (fun _ => HR1.out) (by omega) (some ⟨w1.heap.size, i * 4, none⟩) (fun _ => rfl)
        exact this.below HB4.out
      refine (zzreads_any (some ⟨w1.heap.size, i * 4, none⟩) 1 (n + 1 - i) (fun j => putIn x i v (i + j)) _ (by omega) (fun r hr => HX.out (i + r) (by omega)) o4).mono ?_
      rintro e w5 ⟨rfl, hb5⟩
      have HB5 : Hid (Below w1.heap.size w1 w5) := (HBr.out.trans (HB4.out.mono HBr.out.size)).trans (hb5.mono (Nat.le_trans HBr.out.size HB4.out.size))
      have e1 : orF (fun j => putIn x i v (i + j)) 1 = v := by
        show (0 : Nat) ||| putIn x i v (i + 0) = v
        rw [Nat.zero_or]
        unfold putIn
        rw [if_neg (by omega), if_pos (by omega)]
      have e2 : bits .or .u32 ((orF x n : Nat) : Int) (v : Int) = ((orF (putIn x i v) (n + 1) : Nat) : Int) := by
        rw [u32_or_nat _ _ (orF_lt HW.out.2.2 n (Nat.le_refl _)) hv, orF_putIn x i v n hi]
      rw [e1]
      clear e1 o4 hb5
      generalize orF (putIn x i v) (n + 1) = P at *
      generalize orF x n = Q at *
      go_wp2
      go_ret
      exact ⟨by simp, HB5.out⟩

/-- Whatever the place. -/
theorem insert_any (ao : Option Addr) (n c : Nat) (i : Int) (v : Nat) (x : Nat → Nat) (w : World) (hn : n ≤ 9223372036854775807) (hv : v < 4294967296) (hnil : ao = none → n = 0 ∧ c = 0) (hw : Words w ao n x) :
    Calls Try.prog 4 #[.slice ao n c, .int .i64 i, .int .u32 v] w fun e w' => e = .returned (.bool true) ∧ Below w.heap.size w w' := by
  by_cases h1 : n ≤ 65536
  · have hd : decide (n ≤ 1048576) = true := by simp; omega
    by_cases h2 : 0 ≤ i
    · obtain ⟨q, rfl⟩ := Int.eq_ofNat_of_zero_le h2
      by_cases h3 : q ≤ n
      · exact insert_walk ao n c q v x w h1 h3 hv hnil hw
      · have h5 : (n : Int) < (q : Int) := by omega
        clear hw hnil h3
        go_enter Try.func4, Try.ntmps4
        go_wp2_with fail
        refine (zz13_any ao n c q v _ hn).mono ?_
        rintro e w1 ⟨rfl, rfl⟩
        rw [hd]
        go_wp2
        go_ret
        exact ⟨rfl, Below.refl _ _⟩
    · clear hw hnil
      go_enter Try.func4, Try.ntmps4
      go_wp2_with fail
      refine (zz13_any ao n c i v _ hn).mono ?_
      rintro e w1 ⟨rfl, rfl⟩
      rw [hd]
      go_wp2
      go_ret
      exact ⟨rfl, Below.refl _ _⟩
  · clear hw hnil
    go_enter Try.func4, Try.ntmps4
    go_wp2_with fail
    refine (zz13_any ao n c i v _ hn).mono ?_
    rintro e w1 ⟨rfl, rfl⟩
    cases decide (n ≤ 1048576)
    all_goals
      go_wp2
      go_ret
      exact ⟨rfl, Below.refl _ _⟩
end Go.Proofs.Qxb6614055a
