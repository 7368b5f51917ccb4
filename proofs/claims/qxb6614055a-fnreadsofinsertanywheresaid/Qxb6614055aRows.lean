/-
  No cell of these rows narrows 'for every input' (looked for: loops, veiled, ifaces, maps, wideKeys, modest, calm, conditions, laid).
  DERIVED. THE GIVEN ROWS OF THIS SEAT. 7 by the template 'for every input the law returns true; each argument reads behind the call as it read before'; 0 by the template 'total and deterministic' (their statements: Qxb6614055aTotals.lean).
  GIVEN WITH THE SEED: the statements are not yours to turn. If you find one false, say at which input.
  Laid BY PROGRAM, IN A SANDBOX (cutbox-rows.mjs): the forced cells as the released guide's own fill.sh prints them over the translation 20a382f1e9dac58d… (all of the seat's roots in one cut). By AI agents, Wed Nov 11 2026. No macro, syntax, notation, axiom, sorry.
-/
import Derived.Test.Qxb6614055aChecked
import GoSem.Claim
import GoSem.ClaimJoined
import GoSem.ClaimMapViews
import Derived.JoinedTies
import Derived.KernelRfl
namespace Go.Proofs.Qxb6614055a
/- THE CELL 'sum', in the pinned program and in every row, IS THE sha256 OF THE DUMP (.gsa) THAT Qxb6614055aProg.lean LOADS. Nothing in Lean hashes anything: it is a label: what it is worth is what the hold of that sum in a sandbox is worth. -/
noncomputable def Try.pinned : Pinned := { name := "qxb6614055a", sum := "20a382f1e9dac58d44ad98f1fb491d893fb74cc406d066c0ea169829f6795075", checked := Try.checked }
namespace Rows
def none {H : Type} : Left H := { results := [], args := [] }

/-- 'zzlaws_internal_engine_b1.FnReadsOfSplitAndLeastCover': WHATEVER THE INPUT: true; the input reads as it did. -/
def fnReadsOfSplitAndLeastCoverSpec : ChangeSpec := { name := "fnReadsOfSplitAndLeastCover", fn := fun _ => fun
  | [d1, d2] => { results := [.lit (.bool true)], args := [d1, d2] }
  | _ => none }
def fnReadsOfSplitAndLeastCoverRow : OpenClaim := { program := "qxb6614055a", sum := "20a382f1e9dac58d44ad98f1fb491d893fb74cc406d066c0ea169829f6795075", func := "example.com/stillframe/stillframe/zzlaws_internal_engine_b1.FnReadsOfSplitAndLeastCover", spec := "fnReadsOfSplitAndLeastCover", apart := false }
def FnReadsOfSplitAndLeastCoverSaid : Prop := fnReadsOfSplitAndLeastCoverRow.holds Try.pinned (OpenSpec.ofChange fnReadsOfSplitAndLeastCoverSpec)

/-- ITS FALSE NEIGHBOUR: 'it returns false'. Refute it at one input. -/
def fnReadsOfSplitAndLeastCoverWrong : ChangeSpec := { name := "fnReadsOfSplitAndLeastCover", fn := fun _ => fun
  | [d1, d2] => { results := [.lit (.bool false)], args := [d1, d2] }
  | _ => none }
def FnReadsOfSplitAndLeastCoverWrongFalsely : Prop := fnReadsOfSplitAndLeastCoverRow.holds Try.pinned (OpenSpec.ofChange fnReadsOfSplitAndLeastCoverWrong)

/-- 'zzlaws_internal_engine_b1.FnReadsOfInsertAnywhere': WHATEVER THE INPUT: true; the input reads as it did. -/
def fnReadsOfInsertAnywhereSpec : ChangeSpec := { name := "fnReadsOfInsertAnywhere", fn := fun _ => fun
  | [d1, d2, d3] => { results := [.lit (.bool true)], args := [d1, d2, d3] }
  | _ => none }
def fnReadsOfInsertAnywhereRow : OpenClaim := { program := "qxb6614055a", sum := "20a382f1e9dac58d44ad98f1fb491d893fb74cc406d066c0ea169829f6795075", func := "example.com/stillframe/stillframe/zzlaws_internal_engine_b1.FnReadsOfInsertAnywhere", spec := "fnReadsOfInsertAnywhere", apart := false }
def FnReadsOfInsertAnywhereSaid : Prop := fnReadsOfInsertAnywhereRow.holds Try.pinned (OpenSpec.ofChange fnReadsOfInsertAnywhereSpec)

/-- ITS FALSE NEIGHBOUR: 'it returns false'. Refute it at one input. -/
def fnReadsOfInsertAnywhereWrong : ChangeSpec := { name := "fnReadsOfInsertAnywhere", fn := fun _ => fun
  | [d1, d2, d3] => { results := [.lit (.bool false)], args := [d1, d2, d3] }
  | _ => none }
def FnReadsOfInsertAnywhereWrongFalsely : Prop := fnReadsOfInsertAnywhereRow.holds Try.pinned (OpenSpec.ofChange fnReadsOfInsertAnywhereWrong)

/-- 'zzlaws_internal_engine_b1.FnAtSymbolOnlyItsOwnTokensText': WHATEVER THE INPUT: true; the input reads as it did. -/
def fnAtSymbolOnlyItsOwnTokensTextSpec : ChangeSpec := { name := "fnAtSymbolOnlyItsOwnTokensText", fn := fun _ => fun
  | [d1, d2, d3] => { results := [.lit (.bool true)], args := [d1, d2, d3] }
  | _ => none }
def fnAtSymbolOnlyItsOwnTokensTextRow : OpenClaim := { program := "qxb6614055a", sum := "20a382f1e9dac58d44ad98f1fb491d893fb74cc406d066c0ea169829f6795075", func := "example.com/stillframe/stillframe/zzlaws_internal_engine_b1.FnAtSymbolOnlyItsOwnTokensText", spec := "fnAtSymbolOnlyItsOwnTokensText", apart := false }
def FnAtSymbolOnlyItsOwnTokensTextSaid : Prop := fnAtSymbolOnlyItsOwnTokensTextRow.holds Try.pinned (OpenSpec.ofChange fnAtSymbolOnlyItsOwnTokensTextSpec)

/-- ITS FALSE NEIGHBOUR: 'it returns false'. Refute it at one input. -/
def fnAtSymbolOnlyItsOwnTokensTextWrong : ChangeSpec := { name := "fnAtSymbolOnlyItsOwnTokensText", fn := fun _ => fun
  | [d1, d2, d3] => { results := [.lit (.bool false)], args := [d1, d2, d3] }
  | _ => none }
def FnAtSymbolOnlyItsOwnTokensTextWrongFalsely : Prop := fnAtSymbolOnlyItsOwnTokensTextRow.holds Try.pinned (OpenSpec.ofChange fnAtSymbolOnlyItsOwnTokensTextWrong)

/-- 'zzlaws_internal_engine_b1.FnKeepsViewTurnsOnOnce': WHATEVER THE INPUT: true; the input reads as it did. -/
def fnKeepsViewTurnsOnOnceSpec : ChangeSpec := { name := "fnKeepsViewTurnsOnOnce", fn := fun _ => fun
  | [d1, d2] => { results := [.lit (.bool true)], args := [d1, d2] }
  | _ => none }
def fnKeepsViewTurnsOnOnceRow : OpenClaim := { program := "qxb6614055a", sum := "20a382f1e9dac58d44ad98f1fb491d893fb74cc406d066c0ea169829f6795075", func := "example.com/stillframe/stillframe/zzlaws_internal_engine_b1.FnKeepsViewTurnsOnOnce", spec := "fnKeepsViewTurnsOnOnce", apart := false }
def FnKeepsViewTurnsOnOnceSaid : Prop := fnKeepsViewTurnsOnOnceRow.holds Try.pinned (OpenSpec.ofChange fnKeepsViewTurnsOnOnceSpec)

/-- ITS FALSE NEIGHBOUR: 'it returns false'. Refute it at one input. -/
def fnKeepsViewTurnsOnOnceWrong : ChangeSpec := { name := "fnKeepsViewTurnsOnOnce", fn := fun _ => fun
  | [d1, d2] => { results := [.lit (.bool false)], args := [d1, d2] }
  | _ => none }
def FnKeepsViewTurnsOnOnceWrongFalsely : Prop := fnKeepsViewTurnsOnOnceRow.holds Try.pinned (OpenSpec.ofChange fnKeepsViewTurnsOnOnceWrong)

/-- 'zzlaws_internal_engine_b1.FnKeepsViewAtGreaterAndLesser': WHATEVER THE INPUT: true; the input reads as it did. -/
def fnKeepsViewAtGreaterAndLesserSpec : ChangeSpec := { name := "fnKeepsViewAtGreaterAndLesser", fn := fun _ => fun
  | [d1, d2] => { results := [.lit (.bool true)], args := [d1, d2] }
  | _ => none }
def fnKeepsViewAtGreaterAndLesserRow : OpenClaim := { program := "qxb6614055a", sum := "20a382f1e9dac58d44ad98f1fb491d893fb74cc406d066c0ea169829f6795075", func := "example.com/stillframe/stillframe/zzlaws_internal_engine_b1.FnKeepsViewAtGreaterAndLesser", spec := "fnKeepsViewAtGreaterAndLesser", apart := false }
def FnKeepsViewAtGreaterAndLesserSaid : Prop := fnKeepsViewAtGreaterAndLesserRow.holds Try.pinned (OpenSpec.ofChange fnKeepsViewAtGreaterAndLesserSpec)

/-- ITS FALSE NEIGHBOUR: 'it returns false'. Refute it at one input. -/
def fnKeepsViewAtGreaterAndLesserWrong : ChangeSpec := { name := "fnKeepsViewAtGreaterAndLesser", fn := fun _ => fun
  | [d1, d2] => { results := [.lit (.bool false)], args := [d1, d2] }
  | _ => none }
def FnKeepsViewAtGreaterAndLesserWrongFalsely : Prop := fnKeepsViewAtGreaterAndLesserRow.holds Try.pinned (OpenSpec.ofChange fnKeepsViewAtGreaterAndLesserWrong)

/-- 'zzlaws_internal_engine_b1.FnDecodeNumberByPlaceValue': WHATEVER THE INPUT: true; the input reads as it did. -/
def fnDecodeNumberByPlaceValueSpec : ChangeSpec := { name := "fnDecodeNumberByPlaceValue", fn := fun _ => fun
  | [d1, d2, d3, d4, d5] => { results := [.lit (.bool true)], args := [d1, d2, d3, d4, d5] }
  | _ => none }
def fnDecodeNumberByPlaceValueRow : OpenClaim := { program := "qxb6614055a", sum := "20a382f1e9dac58d44ad98f1fb491d893fb74cc406d066c0ea169829f6795075", func := "example.com/stillframe/stillframe/zzlaws_internal_engine_b1.FnDecodeNumberByPlaceValue", spec := "fnDecodeNumberByPlaceValue", apart := false }
def FnDecodeNumberByPlaceValueSaid : Prop := fnDecodeNumberByPlaceValueRow.holds Try.pinned (OpenSpec.ofChange fnDecodeNumberByPlaceValueSpec)

/-- ITS FALSE NEIGHBOUR: 'it returns false'. Refute it at one input. -/
def fnDecodeNumberByPlaceValueWrong : ChangeSpec := { name := "fnDecodeNumberByPlaceValue", fn := fun _ => fun
  | [d1, d2, d3, d4, d5] => { results := [.lit (.bool false)], args := [d1, d2, d3, d4, d5] }
  | _ => none }
def FnDecodeNumberByPlaceValueWrongFalsely : Prop := fnDecodeNumberByPlaceValueRow.holds Try.pinned (OpenSpec.ofChange fnDecodeNumberByPlaceValueWrong)

/-- 'zzlaws_internal_engine_b1.FnDecodeTextBySpan': WHATEVER THE INPUT: true; the input reads as it did. -/
def fnDecodeTextBySpanSpec : ChangeSpec := { name := "fnDecodeTextBySpan", fn := fun _ => fun
  | [d1, d2, d3, d4] => { results := [.lit (.bool true)], args := [d1, d2, d3, d4] }
  | _ => none }
def fnDecodeTextBySpanRow : OpenClaim := { program := "qxb6614055a", sum := "20a382f1e9dac58d44ad98f1fb491d893fb74cc406d066c0ea169829f6795075", func := "example.com/stillframe/stillframe/zzlaws_internal_engine_b1.FnDecodeTextBySpan", spec := "fnDecodeTextBySpan", apart := false }
def FnDecodeTextBySpanSaid : Prop := fnDecodeTextBySpanRow.holds Try.pinned (OpenSpec.ofChange fnDecodeTextBySpanSpec)

/-- ITS FALSE NEIGHBOUR: 'it returns false'. Refute it at one input. -/
def fnDecodeTextBySpanWrong : ChangeSpec := { name := "fnDecodeTextBySpan", fn := fun _ => fun
  | [d1, d2, d3, d4] => { results := [.lit (.bool false)], args := [d1, d2, d3, d4] }
  | _ => none }
def FnDecodeTextBySpanWrongFalsely : Prop := fnDecodeTextBySpanRow.holds Try.pinned (OpenSpec.ofChange fnDecodeTextBySpanWrong)

end Rows
end Go.Proofs.Qxb6614055a
