/-
  bytes.Compare, (runHeap).Less and ZZrunHeapLess at this program.
-/
import Derived.Test.Qxb6613250aBuild
import Derived.Test.Qxb6613250aPlain
import Derived.Deep.QuietTactic
import Derived.BigQuiet
namespace Go.Proofs.Qxb6613250a
open Go.RowKit Go.Deep

/-- The slice a, of l elements, holds the bytes z. -/
def Holding (w : World) (a : Option Addr) (l : Nat) (z : Nat → Int) : Prop :=
  (a = none → l = 0) ∧ (∀ x, a = some x → ∀ k, k < l → w.cell? (x.add k) = some (.int .u8 (z k))) ∧ ∀ k, k < l → 0 ≤ z k ∧ z k ≤ 255

theorem run_bytesOf (P : Program) (w : World) (a : Option Addr) (l c : Nat) (z : Nat → Int) (h : Holding w a l z) :
    (Extern.Bytes.bytesOf (.slice a l c)).run P w = .ok ⟨(Lib.bytesOf (bl l z)).toArray⟩ w := by
  cases a with
  | none =>
    have := h.1 rfl
    subst this
    rfl
  | some x =>
    have hl := Lib.run_loadBytesX (P := P) w (bl l z) x .empty (fun j v hj => by
      have hjl : j < l := by
        have := (List.getElem?_eq_some_iff.1 hj).1
        rwa [bl_length] at this
      rw [h.2.1 x rfl j hjl]
      simp [bl, hjl] at hj
      rw [hj])
    rw [bl_length] at hl
    have he : (⟨ByteArray.empty.data ++ (Lib.bytesOf (bl l z)).toArray⟩ : ByteArray) = ⟨(Lib.bytesOf (bl l z)).toArray⟩ := by
      apply ByteArray.ext
      show (#[] : Array UInt8) ++ (Lib.bytesOf (bl l z)).toArray = (Lib.bytesOf (bl l z)).toArray
      simp
    rw [he] at hl
    exact hl

/-- The model's entry internal/bytealg.Compare at two slices. -/
theorem run_compare (P : Program) (w : World) (a b : Option Addr) (l c m d : Nat) (z y : Nat → Int) (ha : Holding w a l z) (hb : Holding w b m y) :
    (Extern.BytealgCompare.compare #[.slice a l c, .slice b m d]).run P w = .ok (.int .i64 (cmpF l z m y)) w := by
  have h1 := run_bytesOf P w a l c z ha
  have h2 := run_bytesOf P w b m d y hb
  change Sem.run P (do pure (goInt (Extern.BytealgCompare.cmp (← Extern.Bytes.bytesOf (.slice a l c)) (← Extern.Bytes.bytesOf (.slice b m d))))) w = _
  simp only [Sem.run_bind, Sem.run_pure, h1, h2, Result.andThen]
  rw [Lib.cmp_eq]
  show Result.ok (goInt (Lib.compareBytes (Lib.bytesOf (bl l z)) (Lib.bytesOf (bl m y)))) w = _
  rw [compareBytes_cmpF l m z y ha.2.2 hb.2.2]
  rfl

theorem compare_any (w : World) (a b : Option Addr) (l c m d : Nat) (z y : Nat → Int) (ha : Holding w a l z) (hb : Holding w b m y) :
    Calls Try.prog 14 #[.slice a l c, .slice b m d] w fun e w' => e = .returned (.int .i64 (cmpF l z m y)) ∧ w' = w := by
  go_enter Try.func14, Try.ntmps14
  go_wp2
  rw [run_callFunc_extern Try.func15 (by kernel_rfl) (by kernel_rfl) (by kernel_rfl) (e := Extern.BytealgCompare.compare) (by kernel_rfl), run_compare Try.prog w a b l c m d z y ha hb]
  simp only [Result.andThen]
  rw [Oper.upon_value]
  go_wp2
  go_ret
  exact ⟨rfl, rfl⟩

/-- Block p holds a run with order o, key end k, and the line (a, l). -/
def RunCells (w : World) (p : Nat) (o : Int) (k : Nat) (a : Option Addr) (l : Nat) : Prop :=
  w.cell? ⟨p, 0, none⟩ = some (.int .i64 o) ∧ w.cell? ⟨p, 2, none⟩ = some (.slice a l l) ∧ w.cell? ⟨p, 3, none⟩ = some (.int .i64 k)

set_option maxHeartbeats 1000000 in
/-- (runHeap).Less. -/
theorem less_any (w : World) (B n i j p q : Nat) (o u : Int) (k m : Nat) (a b : Option Addr) (l r : Nat) (z y : Nat → Int) (hi : i < n) (hj : j < n)
    (ci : w.cell? ⟨B, i, none⟩ = some (.pointer (some ⟨p, 0, none⟩))) (cj : w.cell? ⟨B, j, none⟩ = some (.pointer (some ⟨q, 0, none⟩)))
    (hp : RunCells w p o k a l) (hq : RunCells w q u m b r) (hk : k ≤ l) (hm : m ≤ r) (ha : Holding w a k z) (hb : Holding w b m y) :
    Calls Try.prog 13 #[.slice (some ⟨B, 0, none⟩) n n, .int .i64 i, .int .i64 j] w fun e w' => e = .returned (.bool (lessF k z m y o u)) ∧ ∃ t, w' = w.drewN t := by
  obtain ⟨p0, p2, p3⟩ := hp
  obtain ⟨q0, q2, q3⟩ := hq
  have HA : Hid (Holding w a k z ∧ Holding w b m y) := ⟨ha, hb⟩
  have i1 : (0 : Int) ≤ (i : Int) := by omega
  have i2 : (i : Int) < (n : Int) := by omega
  have j1 : (0 : Int) ≤ (j : Int) := by omega
  have j2 : (j : Int) < (n : Int) := by omega
  have k1 : (0 : Int) ≤ (k : Int) := by omega
  have k2 : (k : Int) ≤ (l : Int) := by omega
  have m1 : (0 : Int) ≤ (m : Int) := by omega
  have m2 : (m : Int) ≤ (r : Int) := by omega
  clear ha hb
  go_enter Try.func13, Try.ntmps13
  go_wp2
  go_quiet ((go_at_call 14; exact Calls.quiet_of_same (compare_any _ a b k l m r z y HA.out.1 HA.out.2)))
  have hE : lessF k z m y o u = if cmpF k z m y = 0 then decide (o < u) else decide (cmpF k z m y < 0) := rfl
  have HE : Hid (lessF k z m y o u = if cmpF k z m y = 0 then decide (o < u) else decide (cmpF k z m y < 0)) := hE
  clear hE HA
  generalize cmpF k z m y = c at *
  by_cases h0 : c = 0
  · have hb0 : (c != 0) = false := by simp [h0]
    have HC : Hid (c = 0) := h0
    clear h0
    go_wp2
    go_quiet (fail)
    go_wp2
    go_ret
    refine ⟨?_, _, World.drewN_drewN _ _ _⟩
    rw [HE.out, if_pos HC.out]; rfl
  · have hb0 : (c != 0) = true := by simp [h0]
    have HC : Hid (¬ c = 0) := h0
    clear h0
    go_wp2
    go_ret
    refine ⟨?_, _, rfl⟩
    rw [HE.out, if_neg HC.out]; rfl

/-- ZZrunHeapLess. -/
theorem zzless_any (w : World) (B n i j p q : Nat) (o u : Int) (k m : Nat) (a b : Option Addr) (l r : Nat) (z y : Nat → Int) (hi : i < n) (hj : j < n)
    (ci : w.cell? ⟨B, i, none⟩ = some (.pointer (some ⟨p, 0, none⟩))) (cj : w.cell? ⟨B, j, none⟩ = some (.pointer (some ⟨q, 0, none⟩)))
    (hp : RunCells w p o k a l) (hq : RunCells w q u m b r) (hk : k ≤ l) (hm : m ≤ r) (ha : Holding w a k z) (hb : Holding w b m y) :
    Calls Try.prog 8 #[.slice (some ⟨B, 0, none⟩) n n, .int .i64 i, .int .i64 j] w fun e w' => e = .returned (.bool (lessF k z m y o u)) ∧ ∃ t, w' = w.drewN t := by
  have H := less_any w B n i j p q o u k m a b l r z y hi hj ci cj hp hq hk hm ha hb
  have HH : Hid (Calls Try.prog 13 #[.slice (some ⟨B, 0, none⟩) n n, .int .i64 i, .int .i64 j] w fun e w' => e = .returned (.bool (lessF k z m y o u)) ∧ ∃ t, w' = w.drewN t) := H
  clear H ci cj hp hq ha hb
  go_enter Try.func8, Try.ntmps8
  go_wp2_with (go_at_call 13; refine HH.out.mono ?_; rintro e w' ⟨rfl, t, rfl⟩)
  go_ret
  exact ⟨rfl, t, rfl⟩
end Go.Proofs.Qxb6613250a
