/-
  No cell of these rows narrows 'for every input' (looked for: loops, veiled, ifaces, maps, wideKeys, modest, calm, conditions, laid).
  DERIVED. THE GIVEN ROWS OF THIS SEAT. 6 by the template 'for every input the law returns true; each argument reads behind the call as it read before'; 0 by the template 'total and deterministic' (their statements: Qxb6601079aTotals.lean).
  GIVEN WITH THE SEED: the statements are not yours to turn. If you find one false, say at which input.
  Laid BY PROGRAM, IN A SANDBOX (cutbox-rows.mjs): the forced cells as the released guide's own fill.sh prints them over the translation 1d2a8a6d939630e3… (all of the seat's roots in one cut). By AI agents, Wed Nov 11 2026. No macro, syntax, notation, axiom, sorry.
-/
import Derived.Test.Qxb6601079aChecked
import GoSem.Claim
import GoSem.ClaimJoined
import GoSem.ClaimMapViews
import Derived.JoinedTies
import Derived.KernelRfl
namespace Go.Proofs.Qxb6601079a
/- THE CELL 'sum', in the pinned program and in every row, IS THE sha256 OF THE DUMP (.gsa) THAT Qxb6601079aProg.lean LOADS. Nothing in Lean hashes anything: it is a label: what it is worth is what the hold of that sum in a sandbox is worth. -/
noncomputable def Try.pinned : Pinned := { name := "qxb6601079a", sum := "1d2a8a6d939630e397b86b7ad1b438a5aeebc5977b429c4dfe654a9c17b7f9ff", checked := Try.checked }
namespace Rows
def none {H : Type} : Left H := { results := [], args := [] }

/-- 'zzlaws_internal_history_b1.FnSkipValueMatchesTwoPassModel': WHATEVER THE INPUT: true; the input reads as it did. -/
def fnSkipValueMatchesTwoPassModelSpec : ChangeSpec := { name := "fnSkipValueMatchesTwoPassModel", fn := fun _ => fun
  | [d1, d2] => { results := [.lit (.bool true)], args := [d1, d2] }
  | _ => none }
def fnSkipValueMatchesTwoPassModelRow : OpenClaim := { program := "qxb6601079a", sum := "1d2a8a6d939630e397b86b7ad1b438a5aeebc5977b429c4dfe654a9c17b7f9ff", func := "example.com/quorumshift/quorumshift/zzlaws_internal_history_b1.FnSkipValueMatchesTwoPassModel", spec := "fnSkipValueMatchesTwoPassModel", apart := false }
def FnSkipValueMatchesTwoPassModelSaid : Prop := fnSkipValueMatchesTwoPassModelRow.holds Try.pinned (OpenSpec.ofChange fnSkipValueMatchesTwoPassModelSpec)

/-- ITS FALSE NEIGHBOUR: 'it returns false'. Refute it at one input. -/
def fnSkipValueMatchesTwoPassModelWrong : ChangeSpec := { name := "fnSkipValueMatchesTwoPassModel", fn := fun _ => fun
  | [d1, d2] => { results := [.lit (.bool false)], args := [d1, d2] }
  | _ => none }
def FnSkipValueMatchesTwoPassModelWrongFalsely : Prop := fnSkipValueMatchesTwoPassModelRow.holds Try.pinned (OpenSpec.ofChange fnSkipValueMatchesTwoPassModelWrong)

/-- 'zzlaws_internal_history_b1.FnSkipValueAnswerHangsOnNothingAfterIt': WHATEVER THE INPUT: true; the input reads as it did. -/
def fnSkipValueAnswerHangsOnNothingAfterItSpec : ChangeSpec := { name := "fnSkipValueAnswerHangsOnNothingAfterIt", fn := fun _ => fun
  | [d1, d2, d3] => { results := [.lit (.bool true)], args := [d1, d2, d3] }
  | _ => none }
def fnSkipValueAnswerHangsOnNothingAfterItRow : OpenClaim := { program := "qxb6601079a", sum := "1d2a8a6d939630e397b86b7ad1b438a5aeebc5977b429c4dfe654a9c17b7f9ff", func := "example.com/quorumshift/quorumshift/zzlaws_internal_history_b1.FnSkipValueAnswerHangsOnNothingAfterIt", spec := "fnSkipValueAnswerHangsOnNothingAfterIt", apart := false }
def FnSkipValueAnswerHangsOnNothingAfterItSaid : Prop := fnSkipValueAnswerHangsOnNothingAfterItRow.holds Try.pinned (OpenSpec.ofChange fnSkipValueAnswerHangsOnNothingAfterItSpec)

/-- ITS FALSE NEIGHBOUR: 'it returns false'. Refute it at one input. -/
def fnSkipValueAnswerHangsOnNothingAfterItWrong : ChangeSpec := { name := "fnSkipValueAnswerHangsOnNothingAfterIt", fn := fun _ => fun
  | [d1, d2, d3] => { results := [.lit (.bool false)], args := [d1, d2, d3] }
  | _ => none }
def FnSkipValueAnswerHangsOnNothingAfterItWrongFalsely : Prop := fnSkipValueAnswerHangsOnNothingAfterItRow.holds Try.pinned (OpenSpec.ofChange fnSkipValueAnswerHangsOnNothingAfterItWrong)

/-- 'zzlaws_internal_history_b1.FnSkipValueShiftsWithAPrefix': WHATEVER THE INPUT: true; the input reads as it did. -/
def fnSkipValueShiftsWithAPrefixSpec : ChangeSpec := { name := "fnSkipValueShiftsWithAPrefix", fn := fun _ => fun
  | [d1, d2, d3] => { results := [.lit (.bool true)], args := [d1, d2, d3] }
  | _ => none }
def fnSkipValueShiftsWithAPrefixRow : OpenClaim := { program := "qxb6601079a", sum := "1d2a8a6d939630e397b86b7ad1b438a5aeebc5977b429c4dfe654a9c17b7f9ff", func := "example.com/quorumshift/quorumshift/zzlaws_internal_history_b1.FnSkipValueShiftsWithAPrefix", spec := "fnSkipValueShiftsWithAPrefix", apart := false }
def FnSkipValueShiftsWithAPrefixSaid : Prop := fnSkipValueShiftsWithAPrefixRow.holds Try.pinned (OpenSpec.ofChange fnSkipValueShiftsWithAPrefixSpec)

/-- ITS FALSE NEIGHBOUR: 'it returns false'. Refute it at one input. -/
def fnSkipValueShiftsWithAPrefixWrong : ChangeSpec := { name := "fnSkipValueShiftsWithAPrefix", fn := fun _ => fun
  | [d1, d2, d3] => { results := [.lit (.bool false)], args := [d1, d2, d3] }
  | _ => none }
def FnSkipValueShiftsWithAPrefixWrongFalsely : Prop := fnSkipValueShiftsWithAPrefixRow.holds Try.pinned (OpenSpec.ofChange fnSkipValueShiftsWithAPrefixWrong)

/-- 'zzlaws_internal_history_b1.FnDescribeNamesCompositesEchoesScalars': WHATEVER THE INPUT: true; the input reads as it did. -/
def fnDescribeNamesCompositesEchoesScalarsSpec : ChangeSpec := { name := "fnDescribeNamesCompositesEchoesScalars", fn := fun _ => fun
  | [d1, d2] => { results := [.lit (.bool true)], args := [d1, d2] }
  | _ => none }
def fnDescribeNamesCompositesEchoesScalarsRow : OpenClaim := { program := "qxb6601079a", sum := "1d2a8a6d939630e397b86b7ad1b438a5aeebc5977b429c4dfe654a9c17b7f9ff", func := "example.com/quorumshift/quorumshift/zzlaws_internal_history_b1.FnDescribeNamesCompositesEchoesScalars", spec := "fnDescribeNamesCompositesEchoesScalars", apart := false }
def FnDescribeNamesCompositesEchoesScalarsSaid : Prop := fnDescribeNamesCompositesEchoesScalarsRow.holds Try.pinned (OpenSpec.ofChange fnDescribeNamesCompositesEchoesScalarsSpec)

/-- ITS FALSE NEIGHBOUR: 'it returns false'. Refute it at one input. -/
def fnDescribeNamesCompositesEchoesScalarsWrong : ChangeSpec := { name := "fnDescribeNamesCompositesEchoesScalars", fn := fun _ => fun
  | [d1, d2] => { results := [.lit (.bool false)], args := [d1, d2] }
  | _ => none }
def FnDescribeNamesCompositesEchoesScalarsWrongFalsely : Prop := fnDescribeNamesCompositesEchoesScalarsRow.holds Try.pinned (OpenSpec.ofChange fnDescribeNamesCompositesEchoesScalarsWrong)

/-- 'zzlaws_internal_history_b1.FnValueUsesMatchesPerValueModel': WHATEVER THE INPUT: true; the input reads as it did. -/
def fnValueUsesMatchesPerValueModelSpec : ChangeSpec := { name := "fnValueUsesMatchesPerValueModel", fn := fun _ => fun
  | [d1, d2] => { results := [.lit (.bool true)], args := [d1, d2] }
  | _ => none }
def fnValueUsesMatchesPerValueModelRow : OpenClaim := { program := "qxb6601079a", sum := "1d2a8a6d939630e397b86b7ad1b438a5aeebc5977b429c4dfe654a9c17b7f9ff", func := "example.com/quorumshift/quorumshift/zzlaws_internal_history_b1.FnValueUsesMatchesPerValueModel", spec := "fnValueUsesMatchesPerValueModel", apart := false }
def FnValueUsesMatchesPerValueModelSaid : Prop := fnValueUsesMatchesPerValueModelRow.holds Try.pinned (OpenSpec.ofChange fnValueUsesMatchesPerValueModelSpec)

/-- ITS FALSE NEIGHBOUR: 'it returns false'. Refute it at one input. -/
def fnValueUsesMatchesPerValueModelWrong : ChangeSpec := { name := "fnValueUsesMatchesPerValueModel", fn := fun _ => fun
  | [d1, d2] => { results := [.lit (.bool false)], args := [d1, d2] }
  | _ => none }
def FnValueUsesMatchesPerValueModelWrongFalsely : Prop := fnValueUsesMatchesPerValueModelRow.holds Try.pinned (OpenSpec.ofChange fnValueUsesMatchesPerValueModelWrong)

/-- 'zzlaws_internal_history_b1.FnValueUsesOrderFreeWithOnePutPerValue': WHATEVER THE INPUT: true; the input reads as it did. -/
def fnValueUsesOrderFreeWithOnePutPerValueSpec : ChangeSpec := { name := "fnValueUsesOrderFreeWithOnePutPerValue", fn := fun _ => fun
  | [d] => { results := [.lit (.bool true)], args := [d] }
  | _ => none }
def fnValueUsesOrderFreeWithOnePutPerValueRow : OpenClaim := { program := "qxb6601079a", sum := "1d2a8a6d939630e397b86b7ad1b438a5aeebc5977b429c4dfe654a9c17b7f9ff", func := "example.com/quorumshift/quorumshift/zzlaws_internal_history_b1.FnValueUsesOrderFreeWithOnePutPerValue", spec := "fnValueUsesOrderFreeWithOnePutPerValue", apart := false }
def FnValueUsesOrderFreeWithOnePutPerValueSaid : Prop := fnValueUsesOrderFreeWithOnePutPerValueRow.holds Try.pinned (OpenSpec.ofChange fnValueUsesOrderFreeWithOnePutPerValueSpec)

/-- ITS FALSE NEIGHBOUR: 'it returns false'. Refute it at one input. -/
def fnValueUsesOrderFreeWithOnePutPerValueWrong : ChangeSpec := { name := "fnValueUsesOrderFreeWithOnePutPerValue", fn := fun _ => fun
  | [d] => { results := [.lit (.bool false)], args := [d] }
  | _ => none }
def FnValueUsesOrderFreeWithOnePutPerValueWrongFalsely : Prop := fnValueUsesOrderFreeWithOnePutPerValueRow.holds Try.pinned (OpenSpec.ofChange fnValueUsesOrderFreeWithOnePutPerValueWrong)

end Rows
end Go.Proofs.Qxb6601079a
