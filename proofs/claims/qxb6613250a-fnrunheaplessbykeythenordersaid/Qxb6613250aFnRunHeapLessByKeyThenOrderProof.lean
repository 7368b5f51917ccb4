/-
  The proof of 'Rows.FnRunHeapLessByKeyThenOrderSaid'.
-/
import Derived.Test.Qxb6613250aRows
import Derived.Test.Qxb6613250aInputs
import Derived.Test.Qxb6613250aLaw3
import Derived.WalkKit
import Derived.ProofKit
import Derived.OpenShut
import Derived.ShutString
import Derived.ChangeOld
import Derived.Below
import Derived.Deep.Matrix
namespace Go.Proofs.Qxb6613250a.fnRunHeapLessByKeyThenOrder
open Go.ChangeShapes Go.WideShapes Go.ChangeAt Go.RowKit Go.Deep
set_option linter.unusedVariables false

theorem own : ownKnob Try.prog.godebug = none := by kernel_rfl
theorem laidOut : laidOutB Try.prog = true := by kernel_rfl

set_option maxHeartbeats 1000000 in
/-- Where the inputs do not fit the guards let the law return true. -/
theorem walk_not (w : World) (ao ko oo : Option Addr) (n lc kn kc on oc : Nat) (i j : Int) (A : Nat → Option Addr) (L C : Nat → Nat) (Z : Nat → Nat → Int) (K O : Nat → Int) (h : Inputs w ao ko oo n kn on A L C Z K O) (hF : ¬ (Small n kn on L ∧ Fit n kn on i j L K)) :
    Calls Try.prog 3 #[.slice ao n lc, .slice ko kn kc, .slice oo on oc, .int .i64 i, .int .i64 j] w fun e w' => e = .returned (.bool true) ∧ Below w.heap.size w w' := by
  have HI : Hid (Inputs w ao ko oo n kn on A L C Z K O) := h
  have HF : Hid (¬ (Small n kn on L ∧ Fit n kn on i j L K)) := hF
  clear hF h
  go_enter Try.func3, Try.ntmps3
  go_wp2_with fail
  refine (zzbytes5 w ao ko oo n lc kn kc on oc i j A L C HI.out.n63 HI.out.kn63 HI.out.on63 HI.out.lines HI.out.lens).mono ?_
  rintro e w1 ⟨b1, rfl, hS, rfl⟩
  cases b1 with
  | false =>
    go_wp2
    go_ret
    exact ⟨rfl, Below.refl _ _⟩
  | true =>
    have S := hS rfl
    go_wp2_with fail
    refine (fit_any _ ao ko oo n lc kn kc on oc i j A L C K HI.out.n63 HI.out.kn63 HI.out.on63 HI.out.lines S.lens HI.out.keys).mono ?_
    rintro e w2 ⟨b2, rfl, hT, t0, rfl⟩
    cases b2 with
    | false =>
      go_wp2
      go_ret
      exact ⟨rfl, below_drewN (Below.refl _ _) _⟩
    | true => exact absurd ⟨S, hT rfl⟩ HF.out

theorem walk (w : World) (ao ko oo : Option Addr) (n lc kn kc on oc : Nat) (i j : Int) (A : Nat → Option Addr) (L C : Nat → Nat) (Z : Nat → Nat → Int) (K O : Nat → Int) (h : Inputs w ao ko oo n kn on A L C Z K O) :
    Calls Try.prog 3 #[.slice ao n lc, .slice ko kn kc, .slice oo on oc, .int .i64 i, .int .i64 j] w fun e w' => e = .returned (.bool true) ∧ Below w.heap.size w w' := by
  by_cases hF : Small n kn on L ∧ Fit n kn on i j L K
  · obtain ⟨la, ka, oa, i', j', rfl, rfl, rfl, rfl, rfl, rfl, rfl, hi, hj, hn, hK, G⟩ := h.fit hF.2
    exact law3_fit w la ka oa _ lc kc oc i' j' A L C Z (fun r => (K r).toNat) O hn hi hj hF.1.lens hK h.range G
  · exact walk_not w ao ko oo n lc kn kc on oc i j A L C Z K O h hF

/-- What the opening of a slice of slices tells. -/
def IsRows (w : World) (a : Option Addr) (len : Nat) (A : Nat → Option Addr) (L C : Nat → Nat) (Z : Nat → List Int) : Prop :=
  len ≤ maxLen ∧ ∀ r, r < len → ∃ x, a = some x ∧ w.cell? (x.add r) = some (.slice (A r) (L r) (C r)) ∧ L r ≤ C r ∧ C r ≤ maxLen ∧ (Z r).length = C r ∧ (∀ n ∈ Z r, (Lit.int .u8 n).wf = true) ∧ (A r = none → C r = 0) ∧
    ∀ a', A r = some a' → ∀ c, c < C r → w.cell? (a'.add c) = some (.int .u8 ((Z r).getD c 0))

/-- What the opening of a slice of integers tells. -/
def IsRow (w : World) (a : Option Addr) (len : Nat) (z : List Int) : Prop :=
  len ≤ maxLen ∧ ∀ r, r < len → ∃ x, a = some x ∧ w.cell? (x.add r) = some (.int .i64 (z.getD r 0))

theorem inputs_of {w : World} {ao ko oo : Option Addr} {n kn on : Nat} {A : Nat → Option Addr} {L C : Nat → Nat} {Z : Nat → List Int} {K O : List Int} (h0 : IsRows w ao n A L C Z) (h1 : IsRow w ko kn K) (h2 : IsRow w oo on O) :
    Inputs w ao ko oo n kn on A L C (fun r k => (Z r).getD k 0) (fun r => K.getD r 0) (fun r => O.getD r 0) := by
  obtain ⟨p0, p⟩ := h0
  obtain ⟨q0, q⟩ := h1
  obtain ⟨s0, s⟩ := h2
  unfold maxLen at p0 q0 s0 p
  refine ⟨p0, q0, s0, fun r hr => ?_, q, s, fun r hr => ?_, fun r hr hA => ?_, fun r hr a ha k hk => ?_, fun r hr => ?_, fun r hr k hk => ?_⟩
  · obtain ⟨x, hx, hc, _⟩ := p r hr
    exact ⟨x, hx, hc⟩
  · obtain ⟨x, hx, hc, h1, h2, _⟩ := p r hr
    omega
  · obtain ⟨x, hx, hc, h1, h2, h3, h4, h5, _⟩ := p r hr
    have := h5 hA
    omega
  · obtain ⟨x, hx, hc, h1, h2, h3, h4, h5, h6⟩ := p r hr
    exact h6 a ha k (by omega)
  · obtain ⟨x, hx, hc, h1, _⟩ := p r hr
    exact h1
  · obtain ⟨x, hx, hc, h1, h2, h3, h4, h5, h6⟩ := p r hr
    have hm : (Z r).getD k 0 ∈ Z r := by
      have : k < (Z r).length := by omega
      simp [List.getD, this]
    exact bounds_u8 (h4 _ hm)

set_option maxRecDepth 100000 in
theorem lifted (os : Os) (started : os.Started) (H : Type) (enc : TypeId × Value → H) :
    ReturnsInHanded {} Try.checked os 3 .any (Rows.fnRunHeapLessByKeyThenOrderSpec.pre6 enc Try.prog Try.f3 Rows.fnRunHeapLessByKeyThenOrderRow.domain false) (Rows.fnRunHeapLessByKeyThenOrderSpec.post enc Try.prog Try.f3 false true false false) := by
  refine returnsInHanded_of_change (C := Try.checked) own started (by kernel_rfl) Try.func3
    (ChangeSpec.witness6 (enc := enc) (C := Try.checked) false ⟨#[], #[.slice none 0 0, .slice none 0 0, .slice none 0 0, .int .i64 0, .int .i64 0], []⟩ 8 (by kernel_rfl) (by kernel_rfl) (by kernel_rfl) (by kernel_rfl)) ?_
  intro W base args ds gs before hval0 hW hcnd _
  have hval : ∀ (j : Nat) t v, Try.f3.params[j]? = some t → args[j]? = some v → Value.okWide Try.prog W .any base t v := hval0
  have hW' := hW
  obtain ⟨p, q, hA0, hV, rfl, hfz, hnd⟩ := hW
  have hA : DataW.TrodAll enc Try.prog W 0 (fun _ => true) true Try.f3.params.toList args.toList ds p := hA0
  rw [Try.params3] at hA hval
  obtain ⟨v0, vs0, d0, ds0, p0, q0, hargs, rfl, rfl, h0, r0⟩ := trodAll_cons hA
  obtain ⟨v1, vs1, d1, ds1, p1, q1, rfl, rfl, rfl, h1, r1⟩ := trodAll_cons r0
  obtain ⟨v2, vs2, d2, ds2, p2, q2, rfl, rfl, rfl, h2, r2⟩ := trodAll_cons r1
  obtain ⟨v3, vs3, d3, ds3, p3, q3, rfl, rfl, rfl, h3, r3⟩ := trodAll_cons r2
  obtain ⟨v4, vs4, d4, ds4, p4, q4, rfl, rfl, rfl, h4, r4⟩ := trodAll_cons r3
  obtain ⟨rfl, rfl, rfl⟩ := trodAll_nil r4
  obtain rfl : args = #[v0, v1, v2, v3, v4] := by cases args; simp_all
  obtain ⟨rfl, rfl⟩ := trodVars_none hV
  obtain ⟨a0, len0, cap0, rfl⟩ := okWide_slice Try.underlying22 (hval 0 22 v0 rfl rfl)
  have k0 := h0
  have lt0 : ∀ x ∈ p0, x.block < W.heap.size := by obtain ⟨m, hm⟩ := k0; exact DataW.trod_lt m _ _ _ hm
  obtain ⟨A, L, C, Z, w0⟩ : ∃ A L C Z, IsRows W a0 len0 A L C Z := by
    obtain ⟨fuel, hf⟩ := h0
    rcases open_int_rows Try.underlying22 Try.underlying28 Try.underlying5 (by kernel_rfl) (by kernel_rfl) hf with ⟨hcs, _⟩ | ⟨x, l, c, A, L, C, Z, hcs, _, hl, hm, _, hall⟩
    · simp [Value.cells] at hcs
      obtain ⟨rfl, rfl, rfl⟩ := hcs
      exact ⟨fun _ => none, fun _ => 0, fun _ => 0, fun _ => [], Nat.zero_le _, fun r hr => absurd hr (Nat.not_lt_zero _)⟩
    · simp [Value.cells] at hcs
      obtain ⟨rfl, rfl, rfl⟩ := hcs
      refine ⟨A, L, C, Z, Nat.le_trans hl hm, fun r hr => ?_⟩
      obtain ⟨g1, g2, g3, g4, g5, g6, g7⟩ := hall r (Nat.lt_of_lt_of_le hr hl)
      exact ⟨x, rfl, g1, g2, g3, g4, g5, g6, fun a' ha' => (g7 a' ha').2⟩
  obtain ⟨a1, len1, cap1, rfl⟩ := okWide_slice Try.underlying23 (hval 1 23 v1 rfl rfl)
  have k1 := h1
  have lt1 : ∀ x ∈ p1, x.block < W.heap.size := by obtain ⟨m, hm⟩ := k1; exact DataW.trod_lt m _ _ _ hm
  obtain ⟨z1, w1⟩ : ∃ zs, IsRow W a1 len1 zs := by
    obtain ⟨fuel, hf⟩ := h1
    rcases open_ints Try.underlying23 Try.underlying3 (by kernel_rfl) hf with ⟨hcs, _⟩ | ⟨x, l, c, zs, hcs, _, hl, hm, hz, _, hcell, hwz⟩
    · simp [Value.cells] at hcs
      obtain ⟨rfl, rfl, rfl⟩ := hcs
      exact ⟨[], Nat.zero_le _, fun r hr => absurd hr (Nat.not_lt_zero _)⟩
    · simp [Value.cells] at hcs
      obtain ⟨rfl, rfl, rfl⟩ := hcs
      have hz' : zs.length = cap1 := by simpa using hz
      exact ⟨zs, Nat.le_trans hl hm, fun r hr => ⟨x, rfl, hcell r (by omega)⟩⟩
  obtain ⟨a2, len2, cap2, rfl⟩ := okWide_slice Try.underlying23 (hval 2 23 v2 rfl rfl)
  have k2 := h2
  have lt2 : ∀ x ∈ p2, x.block < W.heap.size := by obtain ⟨m, hm⟩ := k2; exact DataW.trod_lt m _ _ _ hm
  obtain ⟨z2, w2⟩ : ∃ zs, IsRow W a2 len2 zs := by
    obtain ⟨fuel, hf⟩ := h2
    rcases open_ints Try.underlying23 Try.underlying3 (by kernel_rfl) hf with ⟨hcs, _⟩ | ⟨x, l, c, zs, hcs, _, hl, hm, hz, _, hcell, hwz⟩
    · simp [Value.cells] at hcs
      obtain ⟨rfl, rfl, rfl⟩ := hcs
      exact ⟨[], Nat.zero_le _, fun r hr => absurd hr (Nat.not_lt_zero _)⟩
    · simp [Value.cells] at hcs
      obtain ⟨rfl, rfl, rfl⟩ := hcs
      have hz' : zs.length = cap2 := by simpa using hz
      exact ⟨zs, Nat.le_trans hl hm, fun r hr => ⟨x, rfl, hcell r (by omega)⟩⟩
  obtain ⟨a3, rfl, rfl, rfl, w3⟩ := open_int Try.underlying3 (hval 3 3 v3 rfl rfl) h3
  obtain ⟨a4, rfl, rfl, rfl, w4⟩ := open_int Try.underlying3 (hval 4 3 v4 rfl rfl) h4
  clear hA0 hval0
  refine (walk W a0 a1 a2 len0 cap0 len1 cap1 len2 cap2 a3 a4 A L C _ _ _ (inputs_of w0 w1 w2)).mono fun e W' ⟨he, bel⟩ => ?_
  subst he
  exact ⟨_, rfl, _, _, _, [], _, [], hW', trodAll_mk1 (shut_bool Try.underlying4 _), (trodAll_cons_mk (Below.trod laidOut (by kernel_rfl) (of_decide_eq_true (by kernel_rfl)) k0 bel lt0) (trodAll_cons_mk (Below.trod laidOut (by kernel_rfl) (of_decide_eq_true (by kernel_rfl)) k1 bel lt1) (trodAll_cons_mk (Below.trod laidOut (by kernel_rfl) (of_decide_eq_true (by kernel_rfl)) k2 bel lt2) (trodAll_cons_mk (shut_int Try.underlying3 w3) (trodAll_cons_mk (shut_int Try.underlying3 w4) trodAll_mk0))))), rfl, bel.frame _, fun h => by cases h⟩

theorem over : Rows.fnRunHeapLessByKeyThenOrderRow.holds Try.pinned (OpenSpec.ofChange Rows.fnRunHeapLessByKeyThenOrderSpec) :=
  OpenClaim.holds_of_wide 3 Try.f3 rfl rfl rfl rfl rfl rfl rfl ⟨rfl, rfl, rfl, rfl, rfl⟩ rfl rfl rfl rfl rfl (by kernel_rfl) Try.func3 (by kernel_rfl)
    (of_decide_eq_true (by kernel_rfl)) (by unfold Func.isWrapper; first | (rw [if_pos (by decide +kernel)]; kernel_rfl) | (rw [if_neg (by decide +kernel)]; exact ⟨rfl, rfl⟩))
    (fun os started H enc _ => lifted os started H enc)

/-- The statement. -/
theorem proved : Rows.FnRunHeapLessByKeyThenOrderSaid := over
end Go.Proofs.Qxb6613250a.fnRunHeapLessByKeyThenOrder

namespace Go.Proofs.Qxb6613250a
/-- The statement, under a name of its own. -/
theorem provedFnRunHeapLessByKeyThenOrder : Rows.FnRunHeapLessByKeyThenOrderSaid := fnRunHeapLessByKeyThenOrder.proved
#print axioms provedFnRunHeapLessByKeyThenOrder
end Go.Proofs.Qxb6613250a
