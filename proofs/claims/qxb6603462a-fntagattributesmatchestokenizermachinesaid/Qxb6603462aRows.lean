/-
  No cell of these rows narrows 'for every input' (looked for: loops, veiled, ifaces, maps, wideKeys, modest, calm, conditions, laid).
  DERIVED. THE GIVEN ROWS OF THIS SEAT. 6 by the template 'for every input the law returns true; each argument reads behind the call as it read before'; 0 by the template 'total and deterministic' (their statements: Qxb6603462aTotals.lean).
  GIVEN WITH THE SEED: the statements are not yours to turn. If you find one false, say at which input.
  Laid BY PROGRAM, IN A SANDBOX (cutbox-rows.mjs): the forced cells as the released guide's own fill.sh prints them over the translation fe3ba762883a0ebd… (all of the seat's roots in one cut). By AI agents, Wed Nov 11 2026. No macro, syntax, notation, axiom, sorry.
-/
import Derived.Test.Qxb6603462aChecked
import GoSem.Claim
import GoSem.ClaimJoined
import GoSem.ClaimMapViews
import Derived.JoinedTies
import Derived.KernelRfl
namespace Go.Proofs.Qxb6603462a
/- THE CELL 'sum', in the pinned program and in every row, IS THE sha256 OF THE DUMP (.gsa) THAT Qxb6603462aProg.lean LOADS. Nothing in Lean hashes anything: it is a label: what it is worth is what the hold of that sum in a sandbox is worth. -/
noncomputable def Try.pinned : Pinned := { name := "qxb6603462a", sum := "fe3ba762883a0ebdebad71746b33cd0d32759ec173d1d8066423166aa1e0d35e", checked := Try.checked }
namespace Rows
def none {H : Type} : Left H := { results := [], args := [] }

/-- 'zzlaws_internal_escape_b1.FnReadValueMatchesStateMachine': WHATEVER THE INPUT: true; the input reads as it did. -/
def fnReadValueMatchesStateMachineSpec : ChangeSpec := { name := "fnReadValueMatchesStateMachine", fn := fun _ => fun
  | [d1, d2, d3, d4, d5, d6, d7] => { results := [.lit (.bool true)], args := [d1, d2, d3, d4, d5, d6, d7] }
  | _ => none }
def fnReadValueMatchesStateMachineRow : OpenClaim := { program := "qxb6603462a", sum := "fe3ba762883a0ebdebad71746b33cd0d32759ec173d1d8066423166aa1e0d35e", func := "example.com/hanga/hanga/zzlaws_internal_escape_b1.FnReadValueMatchesStateMachine", spec := "fnReadValueMatchesStateMachine", apart := false }
def FnReadValueMatchesStateMachineSaid : Prop := fnReadValueMatchesStateMachineRow.holds Try.pinned (OpenSpec.ofChange fnReadValueMatchesStateMachineSpec)

/-- ITS FALSE NEIGHBOUR: 'it returns false'. Refute it at one input. -/
def fnReadValueMatchesStateMachineWrong : ChangeSpec := { name := "fnReadValueMatchesStateMachine", fn := fun _ => fun
  | [d1, d2, d3, d4, d5, d6, d7] => { results := [.lit (.bool false)], args := [d1, d2, d3, d4, d5, d6, d7] }
  | _ => none }
def FnReadValueMatchesStateMachineWrongFalsely : Prop := fnReadValueMatchesStateMachineRow.holds Try.pinned (OpenSpec.ofChange fnReadValueMatchesStateMachineWrong)

/-- 'zzlaws_internal_escape_b1.FnReadValueStaysBetweenNameAndTagEnd': WHATEVER THE INPUT: true; the input reads as it did. -/
def fnReadValueStaysBetweenNameAndTagEndSpec : ChangeSpec := { name := "fnReadValueStaysBetweenNameAndTagEnd", fn := fun _ => fun
  | [d1, d2, d3, d4, d5, d6, d7] => { results := [.lit (.bool true)], args := [d1, d2, d3, d4, d5, d6, d7] }
  | _ => none }
def fnReadValueStaysBetweenNameAndTagEndRow : OpenClaim := { program := "qxb6603462a", sum := "fe3ba762883a0ebdebad71746b33cd0d32759ec173d1d8066423166aa1e0d35e", func := "example.com/hanga/hanga/zzlaws_internal_escape_b1.FnReadValueStaysBetweenNameAndTagEnd", spec := "fnReadValueStaysBetweenNameAndTagEnd", apart := false }
def FnReadValueStaysBetweenNameAndTagEndSaid : Prop := fnReadValueStaysBetweenNameAndTagEndRow.holds Try.pinned (OpenSpec.ofChange fnReadValueStaysBetweenNameAndTagEndSpec)

/-- ITS FALSE NEIGHBOUR: 'it returns false'. Refute it at one input. -/
def fnReadValueStaysBetweenNameAndTagEndWrong : ChangeSpec := { name := "fnReadValueStaysBetweenNameAndTagEnd", fn := fun _ => fun
  | [d1, d2, d3, d4, d5, d6, d7] => { results := [.lit (.bool false)], args := [d1, d2, d3, d4, d5, d6, d7] }
  | _ => none }
def FnReadValueStaysBetweenNameAndTagEndWrongFalsely : Prop := fnReadValueStaysBetweenNameAndTagEndRow.holds Try.pinned (OpenSpec.ofChange fnReadValueStaysBetweenNameAndTagEndWrong)

/-- 'zzlaws_internal_escape_b1.FnReadValueLooksOnlyFromNameEnd': WHATEVER THE INPUT: true; the input reads as it did. -/
def fnReadValueLooksOnlyFromNameEndSpec : ChangeSpec := { name := "fnReadValueLooksOnlyFromNameEnd", fn := fun _ => fun
  | [d1, d2, d3, d4, d5] => { results := [.lit (.bool true)], args := [d1, d2, d3, d4, d5] }
  | _ => none }
def fnReadValueLooksOnlyFromNameEndRow : OpenClaim := { program := "qxb6603462a", sum := "fe3ba762883a0ebdebad71746b33cd0d32759ec173d1d8066423166aa1e0d35e", func := "example.com/hanga/hanga/zzlaws_internal_escape_b1.FnReadValueLooksOnlyFromNameEnd", spec := "fnReadValueLooksOnlyFromNameEnd", apart := false }
def FnReadValueLooksOnlyFromNameEndSaid : Prop := fnReadValueLooksOnlyFromNameEndRow.holds Try.pinned (OpenSpec.ofChange fnReadValueLooksOnlyFromNameEndSpec)

/-- ITS FALSE NEIGHBOUR: 'it returns false'. Refute it at one input. -/
def fnReadValueLooksOnlyFromNameEndWrong : ChangeSpec := { name := "fnReadValueLooksOnlyFromNameEnd", fn := fun _ => fun
  | [d1, d2, d3, d4, d5] => { results := [.lit (.bool false)], args := [d1, d2, d3, d4, d5] }
  | _ => none }
def FnReadValueLooksOnlyFromNameEndWrongFalsely : Prop := fnReadValueLooksOnlyFromNameEndRow.holds Try.pinned (OpenSpec.ofChange fnReadValueLooksOnlyFromNameEndWrong)

/-- 'zzlaws_internal_escape_b1.FnTagAttributesMatchesTokenizerMachine': WHATEVER THE INPUT: true; the input reads as it did. -/
def fnTagAttributesMatchesTokenizerMachineSpec : ChangeSpec := { name := "fnTagAttributesMatchesTokenizerMachine", fn := fun _ => fun
  | [d] => { results := [.lit (.bool true)], args := [d] }
  | _ => none }
def fnTagAttributesMatchesTokenizerMachineRow : OpenClaim := { program := "qxb6603462a", sum := "fe3ba762883a0ebdebad71746b33cd0d32759ec173d1d8066423166aa1e0d35e", func := "example.com/hanga/hanga/zzlaws_internal_escape_b1.FnTagAttributesMatchesTokenizerMachine", spec := "fnTagAttributesMatchesTokenizerMachine", apart := false }
def FnTagAttributesMatchesTokenizerMachineSaid : Prop := fnTagAttributesMatchesTokenizerMachineRow.holds Try.pinned (OpenSpec.ofChange fnTagAttributesMatchesTokenizerMachineSpec)

/-- ITS FALSE NEIGHBOUR: 'it returns false'. Refute it at one input. -/
def fnTagAttributesMatchesTokenizerMachineWrong : ChangeSpec := { name := "fnTagAttributesMatchesTokenizerMachine", fn := fun _ => fun
  | [d] => { results := [.lit (.bool false)], args := [d] }
  | _ => none }
def FnTagAttributesMatchesTokenizerMachineWrongFalsely : Prop := fnTagAttributesMatchesTokenizerMachineRow.holds Try.pinned (OpenSpec.ofChange fnTagAttributesMatchesTokenizerMachineWrong)

/-- 'zzlaws_internal_escape_b1.FnTagAttributesAreOrderedAndWellFormed': WHATEVER THE INPUT: true; the input reads as it did. -/
def fnTagAttributesAreOrderedAndWellFormedSpec : ChangeSpec := { name := "fnTagAttributesAreOrderedAndWellFormed", fn := fun _ => fun
  | [d] => { results := [.lit (.bool true)], args := [d] }
  | _ => none }
def fnTagAttributesAreOrderedAndWellFormedRow : OpenClaim := { program := "qxb6603462a", sum := "fe3ba762883a0ebdebad71746b33cd0d32759ec173d1d8066423166aa1e0d35e", func := "example.com/hanga/hanga/zzlaws_internal_escape_b1.FnTagAttributesAreOrderedAndWellFormed", spec := "fnTagAttributesAreOrderedAndWellFormed", apart := false }
def FnTagAttributesAreOrderedAndWellFormedSaid : Prop := fnTagAttributesAreOrderedAndWellFormedRow.holds Try.pinned (OpenSpec.ofChange fnTagAttributesAreOrderedAndWellFormedSpec)

/-- ITS FALSE NEIGHBOUR: 'it returns false'. Refute it at one input. -/
def fnTagAttributesAreOrderedAndWellFormedWrong : ChangeSpec := { name := "fnTagAttributesAreOrderedAndWellFormed", fn := fun _ => fun
  | [d] => { results := [.lit (.bool false)], args := [d] }
  | _ => none }
def FnTagAttributesAreOrderedAndWellFormedWrongFalsely : Prop := fnTagAttributesAreOrderedAndWellFormedRow.holds Try.pinned (OpenSpec.ofChange fnTagAttributesAreOrderedAndWellFormedWrong)

/-- 'zzlaws_internal_escape_b1.FnTagAttributesSeeOnlyMarkupBytes': WHATEVER THE INPUT: true; the input reads as it did. -/
def fnTagAttributesSeeOnlyMarkupBytesSpec : ChangeSpec := { name := "fnTagAttributesSeeOnlyMarkupBytes", fn := fun _ => fun
  | [d] => { results := [.lit (.bool true)], args := [d] }
  | _ => none }
def fnTagAttributesSeeOnlyMarkupBytesRow : OpenClaim := { program := "qxb6603462a", sum := "fe3ba762883a0ebdebad71746b33cd0d32759ec173d1d8066423166aa1e0d35e", func := "example.com/hanga/hanga/zzlaws_internal_escape_b1.FnTagAttributesSeeOnlyMarkupBytes", spec := "fnTagAttributesSeeOnlyMarkupBytes", apart := false }
def FnTagAttributesSeeOnlyMarkupBytesSaid : Prop := fnTagAttributesSeeOnlyMarkupBytesRow.holds Try.pinned (OpenSpec.ofChange fnTagAttributesSeeOnlyMarkupBytesSpec)

/-- ITS FALSE NEIGHBOUR: 'it returns false'. Refute it at one input. -/
def fnTagAttributesSeeOnlyMarkupBytesWrong : ChangeSpec := { name := "fnTagAttributesSeeOnlyMarkupBytes", fn := fun _ => fun
  | [d] => { results := [.lit (.bool false)], args := [d] }
  | _ => none }
def FnTagAttributesSeeOnlyMarkupBytesWrongFalsely : Prop := fnTagAttributesSeeOnlyMarkupBytesRow.holds Try.pinned (OpenSpec.ofChange fnTagAttributesSeeOnlyMarkupBytesWrong)

end Rows
end Go.Proofs.Qxb6603462a
