/-
  No cell of these rows narrows 'for every input' (looked for: loops, veiled, ifaces, maps, wideKeys, modest, calm, conditions, laid).
  DERIVED. THE GIVEN ROWS OF THIS SEAT. 4 by the template 'for every input the law returns true; each argument reads behind the call as it read before'; 0 by the template 'total and deterministic' (their statements: Qxb6613276aTotals.lean).
  GIVEN WITH THE SEED: the statements are not yours to turn. If you find one false, say at which input.
  Laid BY PROGRAM, IN A SANDBOX (cutbox-rows.mjs): the forced cells as the released guide's own fill.sh prints them over the translation e7ee1cb0d94edb3f… (all of the seat's roots in one cut). By AI agents, Wed Nov 11 2026. No macro, syntax, notation, axiom, sorry.
-/
import Derived.Test.Qxb6613276aChecked
import GoSem.Claim
import GoSem.ClaimJoined
import GoSem.ClaimMapViews
import Derived.JoinedTies
import Derived.KernelRfl
namespace Go.Proofs.Qxb6613276a
/- THE CELL 'sum', in the pinned program and in every row, IS THE sha256 OF THE DUMP (.gsa) THAT Qxb6613276aProg.lean LOADS. Nothing in Lean hashes anything: it is a label: what it is worth is what the hold of that sum in a sandbox is worth. -/
noncomputable def Try.pinned : Pinned := { name := "qxb6613276a", sum := "e7ee1cb0d94edb3f9642b4c0afeacee75c46afab32e3d2bf73de9ded5980075b", checked := Try.checked }
namespace Rows
def none {H : Type} : Left H := { results := [], args := [] }

/-- 'zzlaws_root_b1.FnSpanIDInt64SplitsAtAnyCut': WHATEVER THE INPUT: true; the input reads as it did. -/
def fnSpanIDInt64SplitsAtAnyCutSpec : ChangeSpec := { name := "fnSpanIDInt64SplitsAtAnyCut", fn := fun _ => fun
  | [d1, d2] => { results := [.lit (.bool true)], args := [d1, d2] }
  | _ => none }
def fnSpanIDInt64SplitsAtAnyCutRow : OpenClaim := { program := "qxb6613276a", sum := "e7ee1cb0d94edb3f9642b4c0afeacee75c46afab32e3d2bf73de9ded5980075b", func := "example.com/uni-span/uni-span/zzlaws_root_b1.FnSpanIDInt64SplitsAtAnyCut", spec := "fnSpanIDInt64SplitsAtAnyCut", named := ["encoding/binary.BigEndian"], apart := false }
def FnSpanIDInt64SplitsAtAnyCutSaid : Prop := fnSpanIDInt64SplitsAtAnyCutRow.holds Try.pinned (OpenSpec.ofChange fnSpanIDInt64SplitsAtAnyCutSpec)

/-- ITS FALSE NEIGHBOUR: 'it returns false'. Refute it at one input. -/
def fnSpanIDInt64SplitsAtAnyCutWrong : ChangeSpec := { name := "fnSpanIDInt64SplitsAtAnyCut", fn := fun _ => fun
  | [d1, d2] => { results := [.lit (.bool false)], args := [d1, d2] }
  | _ => none }
def FnSpanIDInt64SplitsAtAnyCutWrongFalsely : Prop := fnSpanIDInt64SplitsAtAnyCutRow.holds Try.pinned (OpenSpec.ofChange fnSpanIDInt64SplitsAtAnyCutWrong)

/-- 'zzlaws_root_b1.FnSpanIDInt64OrdersAsSignFlippedBytes': WHATEVER THE INPUT: true; the input reads as it did. -/
def fnSpanIDInt64OrdersAsSignFlippedBytesSpec : ChangeSpec := { name := "fnSpanIDInt64OrdersAsSignFlippedBytes", fn := fun _ => fun
  | [d1, d2] => { results := [.lit (.bool true)], args := [d1, d2] }
  | _ => none }
def fnSpanIDInt64OrdersAsSignFlippedBytesRow : OpenClaim := { program := "qxb6613276a", sum := "e7ee1cb0d94edb3f9642b4c0afeacee75c46afab32e3d2bf73de9ded5980075b", func := "example.com/uni-span/uni-span/zzlaws_root_b1.FnSpanIDInt64OrdersAsSignFlippedBytes", spec := "fnSpanIDInt64OrdersAsSignFlippedBytes", named := ["encoding/binary.BigEndian"], apart := false }
def FnSpanIDInt64OrdersAsSignFlippedBytesSaid : Prop := fnSpanIDInt64OrdersAsSignFlippedBytesRow.holds Try.pinned (OpenSpec.ofChange fnSpanIDInt64OrdersAsSignFlippedBytesSpec)

/-- ITS FALSE NEIGHBOUR: 'it returns false'. Refute it at one input. -/
def fnSpanIDInt64OrdersAsSignFlippedBytesWrong : ChangeSpec := { name := "fnSpanIDInt64OrdersAsSignFlippedBytes", fn := fun _ => fun
  | [d1, d2] => { results := [.lit (.bool false)], args := [d1, d2] }
  | _ => none }
def FnSpanIDInt64OrdersAsSignFlippedBytesWrongFalsely : Prop := fnSpanIDInt64OrdersAsSignFlippedBytesRow.holds Try.pinned (OpenSpec.ofChange fnSpanIDInt64OrdersAsSignFlippedBytesWrong)

/-- 'zzlaws_root_b1.FnInfluxSetV1LastCallWins': WHATEVER THE INPUT: true; the input reads as it did. -/
def fnInfluxSetV1LastCallWinsSpec : ChangeSpec := { name := "fnInfluxSetV1LastCallWins", fn := fun _ => fun
  | [d1, d2] => { results := [.lit (.bool true)], args := [d1, d2] }
  | _ => none }
def fnInfluxSetV1LastCallWinsRow : OpenClaim := { program := "qxb6613276a", sum := "e7ee1cb0d94edb3f9642b4c0afeacee75c46afab32e3d2bf73de9ded5980075b", func := "example.com/uni-span/uni-span/zzlaws_root_b1.FnInfluxSetV1LastCallWins", spec := "fnInfluxSetV1LastCallWins", apart := false }
def FnInfluxSetV1LastCallWinsSaid : Prop := fnInfluxSetV1LastCallWinsRow.holds Try.pinned (OpenSpec.ofChange fnInfluxSetV1LastCallWinsSpec)

/-- ITS FALSE NEIGHBOUR: 'it returns false'. Refute it at one input. -/
def fnInfluxSetV1LastCallWinsWrong : ChangeSpec := { name := "fnInfluxSetV1LastCallWins", fn := fun _ => fun
  | [d1, d2] => { results := [.lit (.bool false)], args := [d1, d2] }
  | _ => none }
def FnInfluxSetV1LastCallWinsWrongFalsely : Prop := fnInfluxSetV1LastCallWinsRow.holds Try.pinned (OpenSpec.ofChange fnInfluxSetV1LastCallWinsWrong)

/-- 'zzlaws_root_b1.FnInfluxSetV1FalseRestoresMakersDefault': WHATEVER THE INPUT: true; the input reads as it did. -/
def fnInfluxSetV1FalseRestoresMakersDefaultSpec : ChangeSpec := { name := "fnInfluxSetV1FalseRestoresMakersDefault", fn := fun _ => fun
  | [d] => { results := [.lit (.bool true)], args := [d] }
  | _ => none }
def fnInfluxSetV1FalseRestoresMakersDefaultRow : OpenClaim := { program := "qxb6613276a", sum := "e7ee1cb0d94edb3f9642b4c0afeacee75c46afab32e3d2bf73de9ded5980075b", func := "example.com/uni-span/uni-span/zzlaws_root_b1.FnInfluxSetV1FalseRestoresMakersDefault", spec := "fnInfluxSetV1FalseRestoresMakersDefault", apart := false }
def FnInfluxSetV1FalseRestoresMakersDefaultSaid : Prop := fnInfluxSetV1FalseRestoresMakersDefaultRow.holds Try.pinned (OpenSpec.ofChange fnInfluxSetV1FalseRestoresMakersDefaultSpec)

/-- ITS FALSE NEIGHBOUR: 'it returns false'. Refute it at one input. -/
def fnInfluxSetV1FalseRestoresMakersDefaultWrong : ChangeSpec := { name := "fnInfluxSetV1FalseRestoresMakersDefault", fn := fun _ => fun
  | [d] => { results := [.lit (.bool false)], args := [d] }
  | _ => none }
def FnInfluxSetV1FalseRestoresMakersDefaultWrongFalsely : Prop := fnInfluxSetV1FalseRestoresMakersDefaultRow.holds Try.pinned (OpenSpec.ofChange fnInfluxSetV1FalseRestoresMakersDefaultWrong)

end Rows
end Go.Proofs.Qxb6613276a
