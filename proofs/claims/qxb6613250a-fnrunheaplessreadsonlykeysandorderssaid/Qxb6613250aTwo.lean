/-
  What both laws share: the runs that were built, asked for two of them.
-/
import Derived.Test.Qxb6613250aBuild
import Derived.Test.Qxb6613250aLess
import Derived.Test.Qxb6613250aGuard
import Derived.Test.Qxb6613250aFit
namespace Go.Proofs.Qxb6613250a
open Go.RowKit Go.Deep

theorem below_drewN {B : Nat} {a w : World} (h : Below B a w) (n : Nat) : Below B a (w.drewN n) := ⟨h.os, h.tape, h.output, h.size, h.block⟩
theorem below_of_drewN {B : Nat} {w w' : World} {n : Nat} (h : Below B (w.drewN n) w') : Below B w w' := ⟨h.os, h.tape, h.output, h.size, h.block⟩

theorem Given.drewN {w : World} {n : Nat} {la ka oa : Addr} {A : Nat → Option Addr} {L C : Nat → Nat} {Z : Nat → Nat → Int} {K O : Nat → Int} (h : Given w n la ka oa A L C Z K O) (t : Nat) : Given (w.drewN t) n la ka oa A L C Z K O :=
  ⟨h.lines, h.keys, h.orders, h.nil, h.bytes, h.cap⟩

/-- A run that was built: its cells, and that its line holds the key's bytes. -/
theorem RunAt.cells {B : Nat} {w : World} {p : Nat} {o : Int} {k l : Nat} {z : Nat → Int} (h : RunAt B w p o k l z) (hk : k ≤ l) (hz : ∀ c, c < l → 0 ≤ z c ∧ z c ≤ 255) :
    ∃ a, RunCells w p o k a l ∧ Holding w a k z := by
  obtain ⟨_, ao, cb, _, hh, hc⟩ := h
  refine ⟨ao, ⟨by simp [World.cell?, hh], by simp [World.cell?, hh], by simp [World.cell?, hh]⟩, ?_⟩
  rcases hc with ⟨rfl, rfl⟩ | ⟨rfl, hr⟩
  · exact ⟨fun _ => by omega, (fun x hx => by cases hx), fun c hc => hz c (by omega)⟩
  · refine ⟨(fun hx => by cases hx), fun x hx c hc => ?_, fun c hc => hz c (by omega)⟩
    cases hx
    have := hr.cell (i := c) (by omega)
    have e : (⟨cb, 0, none⟩ : Addr).add c = ⟨cb, c, none⟩ := by unfold Addr.add; split <;> simp_all
    rw [e]
    exact this

/-- ZZrunHeapLess over the runs that were built. -/
theorem built_less {w : World} {B n : Nat} {f : Nat → Nat} {L : Nat → Nat} {Z : Nat → Nat → Int} {K : Nat → Nat} {O : Nat → Int} (hrow : w.rowIs B 29 n (fun r => .pointer (some ⟨f r, 0, none⟩)))
    (hruns : ∀ r, r < n → RunAt B w (f r) (O r) (K r) (L r) (Z r)) (hK : ∀ r, r < n → K r ≤ L r) (hZ : ∀ r, r < n → ∀ c, c < L r → 0 ≤ Z r c ∧ Z r c ≤ 255) (i j : Nat) (hi : i < n) (hj : j < n) (t : Nat) :
    Calls Try.prog 8 #[.slice (some ⟨B, 0, none⟩) n n, .int .i64 i, .int .i64 j] (w.drewN t) fun e w' => e = .returned (.bool (lessF (K i) (Z i) (K j) (Z j) (O i) (O j))) ∧ ∃ t', w' = (w.drewN t).drewN t' := by
  obtain ⟨a, ha, ha'⟩ := (hruns i hi).cells (hK i hi) (hZ i hi)
  obtain ⟨b, hb, hb'⟩ := (hruns j hj).cells (hK j hj) (hZ j hj)
  exact zzless_any (w.drewN t) B n i j (f i) (f j) (O i) (O j) (K i) (K j) a b (L i) (L j) (Z i) (Z j) hi hj (hrow.cell hi) (hrow.cell hj) ha hb (hK i hi) (hK j hj) ha' hb'
end Go.Proofs.Qxb6613250a
