/- The proof of 'Rows.FnUvarintLenOfAnOrIsTheLongerSaid': the frame as the kit's skeleton lays it; the walk is filled. -/
import Derived.Test.Qxb6613213aRows
import Derived.WalkKit
import Derived.ProofKit
import Derived.OpenShut
import Derived.ShutString
import Derived.Test.Qxb6613213aWalks
namespace Go.Proofs.Qxb6613213a.fnUvarintLenOfAnOrIsTheLonger
open Go.ChangeShapes Go.WideShapes Go.ChangeAt Go.RowKit
open Go.ChangeMaps (open_string shut_string)
set_option linter.unusedVariables false      -- a walk need not use every 'w<i>' (that an integer argument fits its kind)

theorem own : ownKnob Try.prog.godebug = none := by kernel_rfl

/-! ### The walk -/
set_option maxHeartbeats 1000000 in
theorem walk (a0 : Int) (a1 : Int) (w0 : (Lit.int .u64 a0).wf = true) (w1 : (Lit.int .u64 a1).wf = true) (w : World) :
    Calls Try.prog 4 #[.int .u64 a0, .int .u64 a1] w fun e w' => e = .returned (.bool true) ∧ Grown w w' := by
  obtain ⟨p0, p1⟩ := bounds_u64 w0
  obtain ⟨q0, q1⟩ := bounds_u64 w1
  clear w0 w1
  have ho : bits .or .u64 a0 a1 = ((a0.toNat ||| a1.toNat : Nat) : Int) := u64_or a0 a1 p0 (by omega) q0 (by omega)
  have hor : a0.toNat ||| a1.toNat < 2 ^ 64 := Nat.or_lt_two_pow (by omega) (by omega)
  have hm := Plain.ul_or a0.toNat a1.toNat (by omega) (by omega)
  have ra := Plain.ul_range a0.toNat (by omega)
  have rb := Plain.ul_range a1.toNat (by omega)
  have ta := Plain.ul_ten a0.toNat (by omega)
  have tb := Plain.ul_ten a1.toNat (by omega)
  go_enter Try.func4, Try.ntmps4
  go_wp2_with fail
  refine (zz_int a0 _ p0 p1).mono ?_
  rintro e w' ⟨rfl, rfl⟩
  go_wp2_with fail
  refine (zz_int a1 _ q0 q1).mono ?_
  rintro e w' ⟨rfl, rfl⟩
  go_wp2_with fail
  refine (zz_any (a0.toNat ||| a1.toNat) _ hor).mono ?_
  rintro e w' ⟨rfl, rfl⟩
  generalize Plain.ul a0.toNat = la at *
  generalize Plain.ul a1.toNat = lb at *
  generalize Plain.ul (a0.toNat ||| a1.toNat) = lo at *
  clear ho hor
  obtain ⟨ra1, ra2⟩ := ra
  obtain ⟨rb1, rb2⟩ := rb
  rcases (show (((la : Int) == 10) = true ∧ 9223372036854775808 ≤ a0) ∨ (((la : Int) == 10) = false ∧ a0 < 9223372036854775808) from by
      rw [beq_iff_eq, beq_eq_false_iff_ne]; omega) with ⟨ta1, ta2⟩ | ⟨ta1, ta2⟩ <;>
  rcases (show (((lb : Int) == 10) = true ∧ 9223372036854775808 ≤ a1) ∨ (((lb : Int) == 10) = false ∧ a1 < 9223372036854775808) from by
      rw [beq_iff_eq, beq_eq_false_iff_ne]; omega) with ⟨tb1, tb2⟩ | ⟨tb1, tb2⟩ <;>
  rcases (show (la < lb ∧ lo = lb) ∨ (lb ≤ la ∧ lo = la) from by omega) with ⟨tm, rfl⟩ | ⟨tm, rfl⟩ <;> clear hm ta tb
  all_goals go_wp2
  all_goals go_ret
  all_goals exact ⟨by simp <;> omega, Grown.refl _⟩

/-! ### THE ROW's STEP: WRITTEN OUT: LEAVE IT -/
set_option maxRecDepth 100000 in
theorem lifted (os : Os) (started : os.Started) (H : Type) (enc : TypeId × Value → H) :
    ReturnsInHanded {} Try.checked os 4 .any (Rows.fnUvarintLenOfAnOrIsTheLongerSpec.pre6 enc Try.prog Try.f4 Rows.fnUvarintLenOfAnOrIsTheLongerRow.domain false) (Rows.fnUvarintLenOfAnOrIsTheLongerSpec.post enc Try.prog Try.f4 false true false false) := by
  refine returnsInHanded_of_change (C := Try.checked) own started (by kernel_rfl) Try.func4
    (ChangeSpec.witness6 (enc := enc) (C := Try.checked) false ⟨#[], #[.int .u64 0, .int .u64 0], []⟩ 8 (by kernel_rfl) (by kernel_rfl) (by kernel_rfl) (by kernel_rfl)) ?_
  intro W base args ds gs before hval0 hW hcnd _
  have hval : ∀ (j : Nat) t v, Try.f4.params[j]? = some t → args[j]? = some v → Value.okWide Try.prog W .any base t v := hval0
  have hW' := hW
  obtain ⟨p, q, hA0, hV, rfl, hfz, hnd⟩ := hW
  have hA : DataW.TrodAll enc Try.prog W 0 (fun _ => true) true Try.f4.params.toList args.toList ds p := hA0
  rw [Try.params4] at hA hval
  obtain ⟨v0, vs0, d0, ds0, p0, q0, hargs, rfl, rfl, h0, r0⟩ := trodAll_cons hA
  obtain ⟨v1, vs1, d1, ds1, p1, q1, rfl, rfl, rfl, h1, r1⟩ := trodAll_cons r0
  obtain ⟨rfl, rfl, rfl⟩ := trodAll_nil r1
  obtain rfl : args = #[v0, v1] := by cases args; simp_all
  obtain ⟨rfl, rfl⟩ := trodVars_none hV
  obtain ⟨a0, rfl, rfl, rfl, w0⟩ := open_int Try.underlying22 (hval 0 22 v0 rfl rfl) h0
  obtain ⟨a1, rfl, rfl, rfl, w1⟩ := open_int Try.underlying22 (hval 1 22 v1 rfl rfl) h1
  clear hA0 hval0
  simp only [List.append_nil] at hW'
  refine (walk a0 a1 w0 w1 W).mono fun e W' ⟨he, hg⟩ => ?_
  subst he
  exact ⟨_, rfl, post_of_same (pa := []) (pv := []) hW' (fun _ _ _ => (trodAll_cons_mk (shut_bool Try.underlying4 _) trodAll_mk0)) (fun sp _ => (trodAll_cons_mk (shut_int Try.underlying22 w0) (trodAll_cons_mk (shut_int Try.underlying22 w1) trodAll_mk0))) (fun _ _ => rfl) rfl
    (hg.frame _) hg.2.1 (ok_one (by kernel_rfl) rfl (okWide_bool_mk Try.underlying4 _))⟩

theorem over : Rows.fnUvarintLenOfAnOrIsTheLongerRow.holds Try.pinned (OpenSpec.ofChange Rows.fnUvarintLenOfAnOrIsTheLongerSpec) :=
  OpenClaim.holds_of_wide 4 Try.f4 rfl rfl rfl rfl rfl rfl rfl ⟨rfl, rfl, rfl, rfl, rfl⟩ rfl rfl rfl rfl rfl (by kernel_rfl) Try.func4 (by kernel_rfl)
    (of_decide_eq_true (by kernel_rfl)) (by unfold Func.isWrapper; first | (rw [if_pos (by decide +kernel)]; kernel_rfl) | (rw [if_neg (by decide +kernel)]; exact ⟨rfl, rfl⟩))
    (fun os started H enc _ => lifted os started H enc)

/-- ████ THE STATEMENT ████ -/
theorem proved : Rows.FnUvarintLenOfAnOrIsTheLongerSaid :=
  over
end Go.Proofs.Qxb6613213a.fnUvarintLenOfAnOrIsTheLonger

namespace Go.Proofs.Qxb6613213a
/-- The statement, under a name of its own. -/
theorem provedFnUvarintLenOfAnOrIsTheLonger : Rows.FnUvarintLenOfAnOrIsTheLongerSaid := fnUvarintLenOfAnOrIsTheLonger.proved
#print axioms provedFnUvarintLenOfAnOrIsTheLonger
end Go.Proofs.Qxb6613213a
