/-
  No cell of these rows narrows 'for every input' (looked for: loops, veiled, ifaces, maps, wideKeys, modest, calm, conditions, laid).
  DERIVED. THE GIVEN ROWS OF THIS SEAT. 2 by the template 'for every input the law returns true; each argument reads behind the call as it read before'; 0 by the template 'total and deterministic' (their statements: Qxb6613250aTotals.lean).
  GIVEN WITH THE SEED: the statements are not yours to turn. If you find one false, say at which input.
  Laid BY PROGRAM, IN A SANDBOX (cutbox-rows.mjs): the forced cells as the released guide's own fill.sh prints them over the translation 6dafaa3f691773ea… (all of the seat's roots in one cut). By AI agents, Wed Nov 11 2026. No macro, syntax, notation, axiom, sorry.
-/
import Derived.Test.Qxb6613250aChecked
import GoSem.Claim
import GoSem.ClaimJoined
import GoSem.ClaimMapViews
import Derived.JoinedTies
import Derived.KernelRfl
namespace Go.Proofs.Qxb6613250a
/- THE CELL 'sum', in the pinned program and in every row, IS THE sha256 OF THE DUMP (.gsa) THAT Qxb6613250aProg.lean LOADS. Nothing in Lean hashes anything: it is a label: what it is worth is what the hold of that sum in a sandbox is worth. -/
noncomputable def Try.pinned : Pinned := { name := "qxb6613250a", sum := "6dafaa3f691773ea0a0556127b4028fea32f39aeb4ba10eed03c87eeff438714", checked := Try.checked }
namespace Rows
def none {H : Type} : Left H := { results := [], args := [] }

/-- 'zzlaws_internal_registry_b1.FnRunHeapLessByKeyThenOrder': WHATEVER THE INPUT: true; the input reads as it did. -/
def fnRunHeapLessByKeyThenOrderSpec : ChangeSpec := { name := "fnRunHeapLessByKeyThenOrder", fn := fun _ => fun
  | [d1, d2, d3, d4, d5] => { results := [.lit (.bool true)], args := [d1, d2, d3, d4, d5] }
  | _ => none }
def fnRunHeapLessByKeyThenOrderRow : OpenClaim := { program := "qxb6613250a", sum := "6dafaa3f691773ea0a0556127b4028fea32f39aeb4ba10eed03c87eeff438714", func := "example.com/shelfmark/shelfmark/zzlaws_internal_registry_b1.FnRunHeapLessByKeyThenOrder", spec := "fnRunHeapLessByKeyThenOrder", inPlace := ["internal/bytealg.Compare"], apart := false }
def FnRunHeapLessByKeyThenOrderSaid : Prop := fnRunHeapLessByKeyThenOrderRow.holds Try.pinned (OpenSpec.ofChange fnRunHeapLessByKeyThenOrderSpec)

/-- ITS FALSE NEIGHBOUR: 'it returns false'. Refute it at one input. -/
def fnRunHeapLessByKeyThenOrderWrong : ChangeSpec := { name := "fnRunHeapLessByKeyThenOrder", fn := fun _ => fun
  | [d1, d2, d3, d4, d5] => { results := [.lit (.bool false)], args := [d1, d2, d3, d4, d5] }
  | _ => none }
def FnRunHeapLessByKeyThenOrderWrongFalsely : Prop := fnRunHeapLessByKeyThenOrderRow.holds Try.pinned (OpenSpec.ofChange fnRunHeapLessByKeyThenOrderWrong)

/-- 'zzlaws_internal_registry_b1.FnRunHeapLessReadsOnlyKeysAndOrders': WHATEVER THE INPUT: true; the input reads as it did. -/
def fnRunHeapLessReadsOnlyKeysAndOrdersSpec : ChangeSpec := { name := "fnRunHeapLessReadsOnlyKeysAndOrders", fn := fun _ => fun
  | [d1, d2, d3, d4, d5] => { results := [.lit (.bool true)], args := [d1, d2, d3, d4, d5] }
  | _ => none }
def fnRunHeapLessReadsOnlyKeysAndOrdersRow : OpenClaim := { program := "qxb6613250a", sum := "6dafaa3f691773ea0a0556127b4028fea32f39aeb4ba10eed03c87eeff438714", func := "example.com/shelfmark/shelfmark/zzlaws_internal_registry_b1.FnRunHeapLessReadsOnlyKeysAndOrders", spec := "fnRunHeapLessReadsOnlyKeysAndOrders", inPlace := ["internal/bytealg.Compare"], apart := false }
def FnRunHeapLessReadsOnlyKeysAndOrdersSaid : Prop := fnRunHeapLessReadsOnlyKeysAndOrdersRow.holds Try.pinned (OpenSpec.ofChange fnRunHeapLessReadsOnlyKeysAndOrdersSpec)

/-- ITS FALSE NEIGHBOUR: 'it returns false'. Refute it at one input. -/
def fnRunHeapLessReadsOnlyKeysAndOrdersWrong : ChangeSpec := { name := "fnRunHeapLessReadsOnlyKeysAndOrders", fn := fun _ => fun
  | [d1, d2, d3, d4, d5] => { results := [.lit (.bool false)], args := [d1, d2, d3, d4, d5] }
  | _ => none }
def FnRunHeapLessReadsOnlyKeysAndOrdersWrongFalsely : Prop := fnRunHeapLessReadsOnlyKeysAndOrdersRow.holds Try.pinned (OpenSpec.ofChange fnRunHeapLessReadsOnlyKeysAndOrdersWrong)

end Rows
end Go.Proofs.Qxb6613250a
