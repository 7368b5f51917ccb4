/-
  bytesEqual at this program; and the pair of runs that the second law makes.
-/
import Derived.Test.Qxb6613250aTwo
namespace Go.Proofs.Qxb6613250a
open Go.RowKit Go.Deep

theorem ret_bool {a b : Bool} (h : a = b) : Ending.returned (.bool a) = .returned (.bool b) := by rw [h]

set_option maxHeartbeats 1000000 in
/-- bytesEqual. -/
theorem same_any (w : World) (a b : Option Addr) (l c m d : Nat) (z y : Nat → Int) (hl : l ≤ 1048576) (hm : m ≤ 1048576) (ha : Holding w a l z) (hb : Holding w b m y) :
    Calls Try.prog 12 #[.slice a l c, .slice b m d] w fun e w' => e = .returned (.bool (sameF l z m y)) ∧ ∃ t, w' = w.drewN t := by
  by_cases e0 : l = m
  · subst e0
    have HA : Hid (Holding w a l z ∧ Holding w b l y) := ⟨ha, hb⟩
    clear ha hb
    generalize hs : sameF l z l y = s
    have HS : Hid (sameF l z l y = s) := hs
    clear hs
    go_enter Try.func12, Try.ntmps12
    go_wp2
    go_loopw [5] (fun v wr => ∃ k : Nat, k ≤ l ∧ v = .int .i64 k ∧ Hid (∀ r, r < k → z r = y r) ∧ ∃ t, wr = w.drewN t) (fun v _ => l - (intOf v).toNat)
    case atStart => exact ⟨0, Nat.zero_le _, rfl, (fun r hr => absurd hr (Nat.not_lt_zero _)), 0, rfl⟩
    case round =>
      obtain ⟨k, hk, rfl, HE, t, rfl⟩ := hrel
      by_cases g : k < l
      · obtain ⟨x, hx⟩ : ∃ x, a = some x := by
          cases a with
          | none => exact absurd (HA.out.1.1 rfl) (by omega)
          | some x => exact ⟨x, rfl⟩
        obtain ⟨x', hx'⟩ : ∃ x, b = some x := by
          cases b with
          | none => exact absurd (HA.out.2.1 rfl) (by omega)
          | some x => exact ⟨x, rfl⟩
        subst hx hx'
        have c1 := HA.out.1.2.1 x rfl k g
        have c2 := HA.out.2.2.1 x' rfl k g
        have p0 : (0 : Int) ≤ (k : Int) := by omega
        have p1 : (k : Int) < (l : Int) := by omega
        by_cases g3 : z k = y k
        · have d3 : (z k != y k) = false := by simpa using g3
          have H3 : Hid (z k = y k) := g3
          clear g3
          go_wp2
          go_quiet (fail)
          go_wp2
          go_roundw
          case rel =>
            refine ⟨k + 1, by omega, by go_num, fun r hr => ?_, _, rfl⟩
            by_cases e : r = k
            · subst e; exact H3.out
            · exact HE.out r (by omega)
          case measure => simp [intOf]; omega
        · have d3 : (z k != y k) = true := by simpa using g3
          have hF : s = false := by
            rw [← HS.out]
            exact decide_eq_false fun h => g3 (h.2 k g)
          clear HS g3
          subst hF
          go_wp2
          go_quiet (fail)
          go_wp2
          go_ret
          exact ⟨rfl, _, World.drewN_drewN _ _ _⟩
      · have hT : s = true := by
          rw [← HS.out]
          exact decide_eq_true ⟨rfl, fun r hr => HE.out r (by omega)⟩
        clear HS
        subst hT
        go_wp2
        go_ret
        exact ⟨rfl, t, rfl⟩
  · have hF : sameF l z m y = false := decide_eq_false fun h => e0 h.1
    rw [hF]
    have d0 : ((l : Int) != (m : Int)) = true := by rw [bne_iff_ne]; omega
    clear e0 hF ha hb
    go_enter Try.func12, Try.ntmps12
    go_wp2
    go_ret
    exact ⟨rfl, 0, rfl⟩

theorem Copied.holding {w : World} {cb : Nat} {ao : Option Addr} {l : Nat} {z : Nat → Int} (h : Copied w cb ao l z) (hz : ∀ c, c < l → 0 ≤ z c ∧ z c ≤ 255) : Holding w ao l z := by
  rcases h with ⟨rfl, rfl⟩ | ⟨rfl, hr⟩
  · exact ⟨fun _ => rfl, (fun x hx => by cases hx), hz⟩
  · refine ⟨(fun hx => by cases hx), fun x hx c hc => ?_, hz⟩
    cases hx
    have e : (⟨cb, 0, none⟩ : Addr).add c = ⟨cb, c, none⟩ := by unfold Addr.add; split <;> simp_all
    rw [e]
    exact hr.cell hc

theorem cells_of_block {w : World} {p : Nat} {o : Int} {k : Nat} {a : Option Addr} {l : Nat} (h : w.heap[p]? = some (.cells #[.int .i64 o, .nilFunc, .slice a l l, .int .i64 k] 37 (0, 0))) : RunCells w p o k a l :=
  ⟨by simp [World.cell?, h], by simp [World.cell?, h], by simp [World.cell?, h]⟩

/-- The pair: run j at its first place, run i at its second; Less asked for places 1 and 0. -/
theorem pair_less {w wa wc : World} {kj ki : Nat} {zj zi : Nat → Int} {oj oi : Int} {aj ai : Option Addr} (hzj : ∀ c, c < kj → 0 ≤ zj c ∧ zj c ≤ 255) (hzi : ∀ c, c < ki → 0 ≤ zi c ∧ zi c ≤ 255)
    (hcj : Copied wa w.heap.size aj kj zj)
    (hbc : Below (wa.heap.size + 1) (wa.alloc (.cells #[.int .i64 oj, .nilFunc, .slice aj kj kj, .int .i64 kj] 37)) wc) (hci : Copied wc (wa.heap.size + 1) ai ki zi) (t : Nat) :
    Calls Try.prog 8 #[.slice (some ⟨wc.heap.size + 1, 0, none⟩) 2 2, .int .i64 1, .int .i64 0]
      (((wc.alloc (.cells #[.int .i64 oi, .nilFunc, .slice ai ki ki, .int .i64 ki] 37)).alloc (.cells #[.pointer (some ⟨wa.heap.size, 0, none⟩), .pointer (some ⟨wc.heap.size, 0, none⟩)] 29)).drewN t) fun e w' =>
      e = .returned (.bool (lessF ki zi kj zj oi oj)) ∧ ∃ t', w' = (((wc.alloc (.cells #[.int .i64 oi, .nilFunc, .slice ai ki ki, .int .i64 ki] 37)).alloc (.cells #[.pointer (some ⟨wa.heap.size, 0, none⟩), .pointer (some ⟨wc.heap.size, 0, none⟩)] 29)).drewN t).drewN t' := by
  have hsz := hbc.size
  have hs1 : (wa.alloc (.cells #[.int .i64 oj, .nilFunc, .slice aj kj kj, .int .i64 kj] 37)).heap.size = wa.heap.size + 1 := by simp
  rw [hs1] at hsz
  have hlt : ∀ b, b < wc.heap.size → ((wc.alloc (.cells #[.int .i64 oi, .nilFunc, .slice ai ki ki, .int .i64 ki] 37)).alloc (.cells #[.pointer (some ⟨wa.heap.size, 0, none⟩), .pointer (some ⟨wc.heap.size, 0, none⟩)] 29)).heap[b]? = wc.heap[b]? := fun b hb =>
    (Below.heap_alloc _ _ _ (by simp; omega)).trans (Below.heap_alloc _ _ _ hb)
  have hblk : ((wc.alloc (.cells #[.int .i64 oi, .nilFunc, .slice ai ki ki, .int .i64 ki] 37)).alloc (.cells #[.pointer (some ⟨wa.heap.size, 0, none⟩), .pointer (some ⟨wc.heap.size, 0, none⟩)] 29)).heap[wc.heap.size + 1]? = some (.cells #[.pointer (some ⟨wa.heap.size, 0, none⟩), .pointer (some ⟨wc.heap.size, 0, none⟩)] 29 (0, 0)) := by
    have := blk_alloc_new (wc.alloc (.cells #[.int .i64 oi, .nilFunc, .slice ai ki ki, .int .i64 ki] 37)) (.cells #[.pointer (some ⟨wa.heap.size, 0, none⟩), .pointer (some ⟨wc.heap.size, 0, none⟩)] 29)
    have e : (wc.alloc (.cells #[.int .i64 oi, .nilFunc, .slice ai ki ki, .int .i64 ki] 37)).heap.size = wc.heap.size + 1 := by simp
    rw [e] at this
    exact this
  have hri : ((wc.alloc (.cells #[.int .i64 oi, .nilFunc, .slice ai ki ki, .int .i64 ki] 37)).alloc (.cells #[.pointer (some ⟨wa.heap.size, 0, none⟩), .pointer (some ⟨wc.heap.size, 0, none⟩)] 29)).heap[wc.heap.size]? = some (.cells #[.int .i64 oi, .nilFunc, .slice ai ki ki, .int .i64 ki] 37 (0, 0)) :=
    (Below.heap_alloc _ _ _ (by simp)).trans (blk_alloc_new _ _)
  have hrj : ((wc.alloc (.cells #[.int .i64 oi, .nilFunc, .slice ai ki ki, .int .i64 ki] 37)).alloc (.cells #[.pointer (some ⟨wa.heap.size, 0, none⟩), .pointer (some ⟨wc.heap.size, 0, none⟩)] 29)).heap[wa.heap.size]? = some (.cells #[.int .i64 oj, .nilFunc, .slice aj kj kj, .int .i64 kj] 37 (0, 0)) :=
    (hlt _ (by omega)).trans ((hbc.block _ (by omega)).trans (blk_alloc_new _ _))
  have hHj : Copied ((wc.alloc (.cells #[.int .i64 oi, .nilFunc, .slice ai ki ki, .int .i64 ki] 37)).alloc (.cells #[.pointer (some ⟨wa.heap.size, 0, none⟩), .pointer (some ⟨wc.heap.size, 0, none⟩)] 29)) w.heap.size aj kj zj :=
    hcj.same fun h => (hlt _ (by omega)).trans ((hbc.block _ (by omega)).trans (Below.heap_alloc _ _ _ h))
  have hHi : Copied ((wc.alloc (.cells #[.int .i64 oi, .nilFunc, .slice ai ki ki, .int .i64 ki] 37)).alloc (.cells #[.pointer (some ⟨wa.heap.size, 0, none⟩), .pointer (some ⟨wc.heap.size, 0, none⟩)] 29)) (wa.heap.size + 1) ai ki zi :=
    hci.same fun h => hlt _ h
  generalize (wc.alloc (.cells #[.int .i64 oi, .nilFunc, .slice ai ki ki, .int .i64 ki] 37)).alloc (.cells #[.pointer (some ⟨wa.heap.size, 0, none⟩), .pointer (some ⟨wc.heap.size, 0, none⟩)] 29) = W at *
  exact zzless_any (W.drewN t) (wc.heap.size + 1) 2 1 0 wc.heap.size wa.heap.size oi oj ki kj ai aj ki kj zi zj (by decide) (by decide) (by show W.cell? _ = _; simp [World.cell?, hblk]) (by show W.cell? _ = _; simp [World.cell?, hblk])
    (cells_of_block hri) (cells_of_block hrj) (Nat.le_refl _) (Nat.le_refl _) (hHi.holding hzi) (hHj.holding hzj)
end Go.Proofs.Qxb6613250a
