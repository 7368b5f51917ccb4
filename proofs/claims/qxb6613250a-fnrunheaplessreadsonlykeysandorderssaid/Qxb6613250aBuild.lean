/-
  buildRuns: the runs that the call makes, one a line.
-/
import Derived.Test.Qxb6613250aLeaf
import Derived.Deep.RegionHeld3
namespace Go.Proofs.Qxb6613250a
open Go.RowKit Go.Deep

/-- Block p is a run of the call's own, with order o, key end k and its own copy of the l bytes z. All its blocks lie behind B. -/
def RunAt (B : Nat) (w : World) (p : Nat) (o k : Int) (l : Nat) (z : Nat → Int) : Prop :=
  B < p ∧ ∃ ao cb, B < cb ∧ w.heap[p]? = some (.cells #[.int .i64 o, .nilFunc, .slice ao l l, .int .i64 k] 37 (0, 0)) ∧ Copied w cb ao l z

theorem lt_of_heap {w : World} {p : Nat} {x : Obj} (h : w.heap[p]? = some x) : p < w.heap.size := by
  obtain ⟨hlt, _⟩ := Array.getElem?_eq_some_iff.1 h
  exact hlt

theorem Copied.same {w w' : World} {cb : Nat} {ao : Option Addr} {l : Nat} {z : Nat → Int} (h : Copied w cb ao l z) (e : cb < w.heap.size → w'.heap[cb]? = w.heap[cb]?) : Copied w' cb ao l z := by
  rcases h with h | ⟨h1, h2⟩
  · exact Or.inl h
  · exact Or.inr ⟨h1, h2.of_block (e h2.lt)⟩

theorem RunAt.same {B : Nat} {w w' : World} {p : Nat} {o k : Int} {l : Nat} {z : Nat → Int} (h : RunAt B w p o k l z) (e : ∀ b, B < b → b < w.heap.size → w'.heap[b]? = w.heap[b]?) : RunAt B w' p o k l z := by
  obtain ⟨hp, ao, cb, hc, hh, hcp⟩ := h
  exact ⟨hp, ao, cb, hc, (e p hp (lt_of_heap hh)).trans hh, hcp.same (e cb hc)⟩

theorem RunAt.below {B : Nat} {w w' : World} {p : Nat} {o k : Int} {l : Nat} {z : Nat → Int} (h : RunAt B w p o k l z) (hb : Below w.heap.size w w') : RunAt B w' p o k l z :=
  h.same fun b _ hlt => hb.block b hlt

theorem RunAt.setCell {B : Nat} {w : World} {p : Nat} {o k : Int} {l : Nat} {z : Nat → Int} (h : RunAt B w p o k l z) (i : Nat) (v : Value) : RunAt B (w.setCell ⟨B, i, none⟩ v) p o k l z :=
  h.same fun b hB _ => Below.heap_setCell _ _ _ _ (by show b ≠ B; omega)

/-- What is known of the lines, key ends and orders that came in, n of each, at a world. -/
structure Given (w : World) (n : Nat) (la ka oa : Addr) (A : Nat → Option Addr) (L C : Nat → Nat) (Z : Nat → Nat → Int) (K O : Nat → Int) : Prop where
  lines : ∀ r, r < n → w.cell? (la.add r) = some (.slice (A r) (L r) (C r))
  keys : ∀ r, r < n → w.cell? (ka.add r) = some (.int .i64 (K r))
  orders : ∀ r, r < n → w.cell? (oa.add r) = some (.int .i64 (O r))
  nil : ∀ r, r < n → A r = none → L r = 0 ∧ C r = 0
  bytes : ∀ r, r < n → ∀ a, A r = some a → ∀ k, k < L r → w.cell? (a.add k) = some (.int .u8 (Z r k))
  cap : ∀ r, r < n → L r ≤ C r

theorem Given.below {w w' : World} {n : Nat} {la ka oa : Addr} {A : Nat → Option Addr} {L C : Nat → Nat} {Z : Nat → Nat → Int} {K O : Nat → Int} (h : Given w n la ka oa A L C Z K O) (hb : Below w.heap.size w w') : Given w' n la ka oa A L C Z K O :=
  ⟨fun r hr => (hb.cell (lt_of_cell (h.lines r hr))).trans (h.lines r hr), fun r hr => (hb.cell (lt_of_cell (h.keys r hr))).trans (h.keys r hr), fun r hr => (hb.cell (lt_of_cell (h.orders r hr))).trans (h.orders r hr), h.nil,
    fun r hr a ha k hk => (hb.cell (lt_of_cell (h.bytes r hr a ha k hk))).trans (h.bytes r hr a ha k hk), h.cap⟩

theorem keep_set {W : World} {a : Addr} {x v : Value} {B k : Nat} (h : W.cell? a = some x) (hb : a.block < B) : (W.setCell ⟨B, k, none⟩ v).cell? a = some x := by
  rw [World.cell?_setCell_other]
  · exact h
  · intro e
    rw [← e] at hb
    exact Nat.lt_irrefl _ hb

theorem below_of_drew {B : Nat} {w w' : World} (h : Below B w.drew w') : Below B w w' := ⟨h.os, h.tape, h.output, h.size, h.block⟩

/-- What one round does to the relation. -/
theorem build_step {B n k : Nat} {w wr w1 : World} {f : Nat → Nat} {L : Nat → Nat} {Z : Nat → Nat → Int} {K O : Nat → Int} {ao : Option Addr} (hbel : Below B w wr) (hk : k < n)
    (hrow : wr.rowIs B 29 n (fun r => .pointer (if r < k then some ⟨f r, 0, none⟩ else none))) (hruns : ∀ r, r < k → RunAt B wr (f r) (O r) (K r) (L r) (Z r))
    (hb1 : Below wr.heap.size wr w1) (hcp : Copied w1 wr.heap.size ao (L k) (Z k)) :
    let W := (w1.setCell ⟨B, k, none⟩ (.pointer (some ⟨w1.heap.size, 0, none⟩))).alloc (.cells #[.int .i64 (O k), .nilFunc, .slice ao (L k) (L k), .int .i64 (K k)] 37)
    Below B w W ∧ ∃ f' : Nat → Nat, W.rowIs B 29 n (fun r => .pointer (if r < k + 1 then some ⟨f' r, 0, none⟩ else none)) ∧ ∀ r, r < k + 1 → RunAt B W (f' r) (O r) (K r) (L r) (Z r) := by
  intro W
  have hBr : B < wr.heap.size := hrow.lt
  have hsz := hb1.size
  have hss : (w1.setCell ⟨B, k, none⟩ (.pointer (some ⟨w1.heap.size, 0, none⟩))).heap.size = w1.heap.size := by simp [World.setCell]
  have hblk : ∀ b, B < b → b < w1.heap.size → W.heap[b]? = w1.heap[b]? := fun b h1 h2 =>
    (Below.heap_alloc _ _ _ (by rw [hss]; exact h2)).trans (Below.heap_setCell _ _ _ _ (by show b ≠ B; omega))
  refine ⟨?_, fun r => if r = k then w1.heap.size else f r, ?_, ?_⟩
  · exact ((hbel.trans (hb1.mono (Nat.le_of_lt hBr))).setCell (Nat.le_refl _) _).alloc (by rw [hss]; omega) _
  · have h1 : w1.rowIs B 29 n (fun r => .pointer (if r < k then some ⟨f r, 0, none⟩ else none)) := hrow.of_block (hb1.block B hBr)
    refine ((h1.set k _).alloc _).congr ?_
    intro i hi
    by_cases e : i = k
    · subst e; simp
    · by_cases e2 : i < k
      · simp [e, e2, show i < k + 1 from by omega]
      · simp [e, e2, show ¬ i < k + 1 from by omega]
  · intro r hr
    by_cases e : r = k
    · subst e
      simp only [if_true]
      refine ⟨by omega, ao, wr.heap.size, hBr, ?_, hcp.same fun h => hblk _ hBr h⟩
      have := blk_alloc_new (w1.setCell ⟨B, r, none⟩ (.pointer (some ⟨w1.heap.size, 0, none⟩))) (.cells #[.int .i64 (O r), .nilFunc, .slice ao (L r) (L r), .int .i64 (K r)] 37)
      rw [hss] at this
      exact this
    · simp only [if_neg e]
      refine ((hruns r (by omega)).below hb1).same fun b h1 h2 => hblk b h1 h2

set_option maxHeartbeats 1000000 in
/-- buildRuns. -/
theorem build_any (n lc kc oc : Nat) (la ka oa : Addr) (A : Nat → Option Addr) (L C : Nat → Nat) (Z : Nat → Nat → Int) (K O : Nat → Int) (w : World) (hn : n ≤ 65536) (hL : ∀ r, r < n → L r ≤ 1048576)
    (G : Given w n la ka oa A L C Z K O) :
    Calls Try.prog 7 #[.slice (some la) n lc, .slice (some ka) n kc, .slice (some oa) n oc] w fun e w' => e = .returned (.slice (some ⟨w.heap.size, 0, none⟩) n n) ∧ Below w.heap.size w w' ∧
      ∃ f : Nat → Nat, w'.rowIs w.heap.size 29 n (fun r => .pointer (some ⟨f r, 0, none⟩)) ∧ ∀ r, r < n → RunAt w.heap.size w' (f r) (O r) (K r) (L r) (Z r) := by
  have hmk := run_make_row' (P := Try.prog) 25 29 (.pointer none) 8 Try.underlying25 info29 rfl .i64 .i64 n (by omega) (by omega)
  go_enter Try.func7, Try.ntmps7
  go_wp2
  go_loopw [8] (fun i wr => ∃ k : Nat, k ≤ n ∧ i = .int .i64 k ∧ Below w.heap.size w wr ∧ ∃ f : Nat → Nat, wr.rowIs w.heap.size 29 n (fun r => .pointer (if r < k then some ⟨f r, 0, none⟩ else none)) ∧ ∀ r, r < k → RunAt w.heap.size wr (f r) (O r) (K r) (L r) (Z r)) (fun i _ => n - (intOf i).toNat)
  case atStart => exact ⟨0, Nat.zero_le _, rfl, (Below.refl _ _).alloc (Nat.le_refl _) _, fun _ => 0, (World.rowIs_made _ _ _ _).congr (by simp), fun r hr => absurd hr (Nat.not_lt_zero _)⟩
  case round =>
    obtain ⟨k, hk, rfl, hbel, f, hrow, hruns⟩ := hrel
    by_cases hlt : k < n
    · have G' := G.below hbel
      have HG : Hid (Given wr n la ka oa A L C Z K O) := G'
      have c1 := G'.lines k hlt
      have c2 := G'.keys k hlt
      have c3 := G'.orders k hlt
      have hc2 : wr.cell? ⟨w.heap.size, k, none⟩ = some (.pointer none) := by simpa using hrow.cell hlt
      have hsz := hrow.lt
      have hf := hrow.frozen k
      have HR : Hid (wr.rowIs w.heap.size 29 n (fun r => .pointer (if r < k then some ⟨f r, 0, none⟩ else none)) ∧ ∀ r, r < k → RunAt w.heap.size wr (f r) (O r) (K r) (L r) (Z r)) := ⟨hrow, hruns⟩
      have hLk := hL k hlt
      have i1 : (0 : Int) ≤ (k : Int) := by omega
      have i2 : (k : Int) < (n : Int) := by omega
      have b1 := lt_of_cell (G.lines k hlt)
      have b2 := lt_of_cell (G.keys k hlt)
      have b3 := lt_of_cell (G.orders k hlt)
      clear hrow hruns G' G hL
      go_wp2
      go_region_held3 (fun w' => w'.cell? (la.add k) = some (.slice (A k) (L k) (C k)) ∧ w'.cell? (ka.add k) = some (.int .i64 (K k)) ∧ w'.cell? (oa.add k) = some (.int .i64 (O k)))
        (first
          | exact ⟨q1, q2, q3⟩
          | exact ⟨Lib.cell?_alloc_some _ q1, Lib.cell?_alloc_some _ q2, Lib.cell?_alloc_some _ q3⟩
          | exact ⟨Lib.cell?_alloc_some _ (keep_set q1 b1), Lib.cell?_alloc_some _ (keep_set q2 b2), Lib.cell?_alloc_some _ (keep_set q3 b3)⟩
          | (simp [*]; done))
        (first
          | (go_at_call 11; refine (clone_any (A k) (L k) (C k) (Z k) _ hLk (HG.out.nil k hlt) (by exact HG.out.bytes k hlt)).mono ?_; rintro e w1 ⟨ao, rfl, hb1, hcp1⟩; have q1 := (hb1.cell (lt_of_cell c1)).trans c1; have q2 := (hb1.cell (lt_of_cell c2)).trans c2; have q3 := (hb1.cell (lt_of_cell c3)).trans c3; have q4 := (hb1.cell (lt_of_cell hc2)).trans hc2; have q5 := (hb1.frozen (p := ⟨w.heap.size, k, none⟩) hsz).trans hf; have q6 : w.heap.size < w1.heap.size := Nat.lt_of_lt_of_le hsz hb1.size)
          | (go_at_call 10; refine (newRun_any _ _ _ _ _ _).mono ?_; rintro e w2 ⟨rfl, rfl⟩))
      have R := build_step hbel hlt HR.out.1 HR.out.2 (below_of_drew hb1) hcp1
      clear hb1 hcp1 q1 q2 q3 q4 q5 HG HR hf hc2 c1 c2 c3
      go_wp2
      go_roundw
      case rel => exact ⟨k + 1, by omega, by go_num, R.1, R.2⟩
      case measure => simp [intOf]; omega
    · go_wp2
      go_ret
      exact ⟨rfl, hbel, f, hrow.congr (by intro i hi; rw [if_pos (by omega)]), fun r hr => hruns r (by omega)⟩
end Go.Proofs.Qxb6613250a
