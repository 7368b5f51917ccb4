/- The proof of 'Rows.FnUvarintLenDropsOneBytePerSevenBitsSaid': the frame as the kit's skeleton lays it; the walk is filled. -/
import Derived.Test.Qxb6613213aRows
import Derived.WalkKit
import Derived.ProofKit
import Derived.OpenShut
import Derived.ShutString
import Derived.Test.Qxb6613213aWalks
namespace Go.Proofs.Qxb6613213a.fnUvarintLenDropsOneBytePerSevenBits
open Go.ChangeShapes Go.WideShapes Go.ChangeAt Go.RowKit
open Go.ChangeMaps (open_string shut_string)
set_option linter.unusedVariables false      -- a walk need not use every 'w<i>' (that an integer argument fits its kind)

theorem own : ownKnob Try.prog.godebug = none := by kernel_rfl

/-! ### The walk -/
theorem walk (a0 : Int) (w0 : (Lit.int .u64 a0).wf = true) (w : World) :
    Calls Try.prog 3 #[.int .u64 a0] w fun e w' => e = .returned (.bool true) ∧ Grown w w' := by
  obtain ⟨h0, h1⟩ := bounds_u64 w0
  clear w0
  by_cases h : a0 < 128
  · have e1 : Plain.ul a0.toNat = 1 := Plain.ul_small a0.toNat (by omega)
    go_enter Try.func3, Try.ntmps3
    go_wp2_with (go_at_call 7; refine (zz_int a0 _ h0 h1).mono ?_; rintro e w' ⟨rfl, rfl⟩)
    go_ret
    exact ⟨rfl, Grown.refl _⟩
  · have hs := Plain.ul_step a0.toNat (by omega) (by omega)
    have hr := Plain.ul_range (a0.toNat / 128) (by omega)
    have Hs : Hid (Plain.ul a0.toNat = Plain.ul (a0.toNat / 128) + 1) := hs
    clear hs
    go_enter Try.func3, Try.ntmps3
    go_wp2_with fail
    refine (zz_int a0 _ h0 h1).mono ?_
    rintro e w' ⟨rfl, rfl⟩
    go_wp2_with fail
    rw [show (a0 / 128 : Int) = ((a0.toNat / 128 : Nat) : Int) from by omega]
    refine (zz_any (a0.toNat / 128) _ (by omega)).mono ?_
    rintro e w' ⟨rfl, rfl⟩
    rw [Hs.out]
    generalize Plain.ul (a0.toNat / 128) = l at *
    obtain ⟨hr1, hr2⟩ := hr
    go_wp2
    go_ret
    exact ⟨by simp, Grown.refl _⟩

/-! ### THE ROW's STEP: WRITTEN OUT: LEAVE IT -/
set_option maxRecDepth 100000 in
theorem lifted (os : Os) (started : os.Started) (H : Type) (enc : TypeId × Value → H) :
    ReturnsInHanded {} Try.checked os 3 .any (Rows.fnUvarintLenDropsOneBytePerSevenBitsSpec.pre6 enc Try.prog Try.f3 Rows.fnUvarintLenDropsOneBytePerSevenBitsRow.domain false) (Rows.fnUvarintLenDropsOneBytePerSevenBitsSpec.post enc Try.prog Try.f3 false true false false) := by
  refine returnsInHanded_of_change (C := Try.checked) own started (by kernel_rfl) Try.func3
    (ChangeSpec.witness6 (enc := enc) (C := Try.checked) false ⟨#[], #[.int .u64 0], []⟩ 8 (by kernel_rfl) (by kernel_rfl) (by kernel_rfl) (by kernel_rfl)) ?_
  intro W base args ds gs before hval0 hW hcnd _
  have hval : ∀ (j : Nat) t v, Try.f3.params[j]? = some t → args[j]? = some v → Value.okWide Try.prog W .any base t v := hval0
  have hW' := hW
  obtain ⟨p, q, hA0, hV, rfl, hfz, hnd⟩ := hW
  have hA : DataW.TrodAll enc Try.prog W 0 (fun _ => true) true Try.f3.params.toList args.toList ds p := hA0
  rw [Try.params3] at hA hval
  obtain ⟨v0, vs0, d0, ds0, p0, q0, hargs, rfl, rfl, h0, r0⟩ := trodAll_cons hA
  obtain ⟨rfl, rfl, rfl⟩ := trodAll_nil r0
  obtain rfl : args = #[v0] := by cases args; simp_all
  obtain ⟨rfl, rfl⟩ := trodVars_none hV
  obtain ⟨a0, rfl, rfl, rfl, w0⟩ := open_int Try.underlying22 (hval 0 22 v0 rfl rfl) h0
  clear hA0 hval0
  simp only [List.append_nil] at hW'
  refine (walk a0 w0 W).mono fun e W' ⟨he, hg⟩ => ?_
  subst he
  exact ⟨_, rfl, post_of_same (pa := []) (pv := []) hW' (fun _ _ _ => (trodAll_cons_mk (shut_bool Try.underlying4 _) trodAll_mk0)) (fun sp _ => (trodAll_cons_mk (shut_int Try.underlying22 w0) trodAll_mk0)) (fun _ _ => rfl) rfl
    (hg.frame _) hg.2.1 (ok_one (by kernel_rfl) rfl (okWide_bool_mk Try.underlying4 _))⟩

theorem over : Rows.fnUvarintLenDropsOneBytePerSevenBitsRow.holds Try.pinned (OpenSpec.ofChange Rows.fnUvarintLenDropsOneBytePerSevenBitsSpec) :=
  OpenClaim.holds_of_wide 3 Try.f3 rfl rfl rfl rfl rfl rfl rfl ⟨rfl, rfl, rfl, rfl, rfl⟩ rfl rfl rfl rfl rfl (by kernel_rfl) Try.func3 (by kernel_rfl)
    (of_decide_eq_true (by kernel_rfl)) (by unfold Func.isWrapper; first | (rw [if_pos (by decide +kernel)]; kernel_rfl) | (rw [if_neg (by decide +kernel)]; exact ⟨rfl, rfl⟩))
    (fun os started H enc _ => lifted os started H enc)

/-- ████ THE STATEMENT ████ -/
theorem proved : Rows.FnUvarintLenDropsOneBytePerSevenBitsSaid :=
  over
end Go.Proofs.Qxb6613213a.fnUvarintLenDropsOneBytePerSevenBits

namespace Go.Proofs.Qxb6613213a
/-- The statement, under a name of its own. -/
theorem provedFnUvarintLenDropsOneBytePerSevenBits : Rows.FnUvarintLenDropsOneBytePerSevenBitsSaid := fnUvarintLenDropsOneBytePerSevenBits.proved
#print axioms provedFnUvarintLenDropsOneBytePerSevenBits
end Go.Proofs.Qxb6613213a
