/-
  No cell of these rows narrows 'for every input' (looked for: loops, veiled, ifaces, maps, wideKeys, modest, calm, conditions, laid).
  DERIVED. THE GIVEN ROWS OF THIS SEAT. 5 by the template 'for every input the law returns true; each argument reads behind the call as it read before'; 0 by the template 'total and deterministic' (their statements: Qxb6603865aTotals.lean).
  GIVEN WITH THE SEED: the statements are not yours to turn. If you find one false, say at which input.
  Laid BY PROGRAM, IN A SANDBOX (cutbox-rows.mjs): the forced cells as the released guide's own fill.sh prints them over the translation 216b4b21a85aa152… (all of the seat's roots in one cut). By AI agents, Wed Nov 11 2026. No macro, syntax, notation, axiom, sorry.
-/
import Derived.Test.Qxb6603865aChecked
import GoSem.Claim
import GoSem.ClaimJoined
import GoSem.ClaimMapViews
import Derived.JoinedTies
import Derived.KernelRfl
namespace Go.Proofs.Qxb6603865a
/- THE CELL 'sum', in the pinned program and in every row, IS THE sha256 OF THE DUMP (.gsa) THAT Qxb6603865aProg.lean LOADS. Nothing in Lean hashes anything: it is a label: what it is worth is what the hold of that sum in a sandbox is worth. -/
noncomputable def Try.pinned : Pinned := { name := "qxb6603865a", sum := "216b4b21a85aa152bcfa980cbee7b42e9c3fb716bdab485fa221cacb3d9cd24c", checked := Try.checked }
namespace Rows
def none {H : Type} : Left H := { results := [], args := [] }

/-- 'zzlaws_internal_bundle_b1.FnDiffMatchesSetModel': WHATEVER THE INPUT: true; the input reads as it did. -/
def fnDiffMatchesSetModelSpec : ChangeSpec := { name := "fnDiffMatchesSetModel", fn := fun _ => fun
  | [d1, d2] => { results := [.lit (.bool true)], args := [d1, d2] }
  | _ => none }
def fnDiffMatchesSetModelRow : OpenClaim := { program := "qxb6603865a", sum := "216b4b21a85aa152bcfa980cbee7b42e9c3fb716bdab485fa221cacb3d9cd24c", func := "example.com/moltgate/moltgate/zzlaws_internal_bundle_b1.FnDiffMatchesSetModel", spec := "fnDiffMatchesSetModel", apart := false }
def FnDiffMatchesSetModelSaid : Prop := fnDiffMatchesSetModelRow.holds Try.pinned (OpenSpec.ofChange fnDiffMatchesSetModelSpec)

/-- ITS FALSE NEIGHBOUR: 'it returns false'. Refute it at one input. -/
def fnDiffMatchesSetModelWrong : ChangeSpec := { name := "fnDiffMatchesSetModel", fn := fun _ => fun
  | [d1, d2] => { results := [.lit (.bool false)], args := [d1, d2] }
  | _ => none }
def FnDiffMatchesSetModelWrongFalsely : Prop := fnDiffMatchesSetModelRow.holds Try.pinned (OpenSpec.ofChange fnDiffMatchesSetModelWrong)

/-- 'zzlaws_internal_bundle_b1.FnDiffFirstReleaseAddsAll': WHATEVER THE INPUT: true; the input reads as it did. -/
def fnDiffFirstReleaseAddsAllSpec : ChangeSpec := { name := "fnDiffFirstReleaseAddsAll", fn := fun _ => fun
  | [d] => { results := [.lit (.bool true)], args := [d] }
  | _ => none }
def fnDiffFirstReleaseAddsAllRow : OpenClaim := { program := "qxb6603865a", sum := "216b4b21a85aa152bcfa980cbee7b42e9c3fb716bdab485fa221cacb3d9cd24c", func := "example.com/moltgate/moltgate/zzlaws_internal_bundle_b1.FnDiffFirstReleaseAddsAll", spec := "fnDiffFirstReleaseAddsAll", apart := false }
def FnDiffFirstReleaseAddsAllSaid : Prop := fnDiffFirstReleaseAddsAllRow.holds Try.pinned (OpenSpec.ofChange fnDiffFirstReleaseAddsAllSpec)

/-- ITS FALSE NEIGHBOUR: 'it returns false'. Refute it at one input. -/
def fnDiffFirstReleaseAddsAllWrong : ChangeSpec := { name := "fnDiffFirstReleaseAddsAll", fn := fun _ => fun
  | [d] => { results := [.lit (.bool false)], args := [d] }
  | _ => none }
def FnDiffFirstReleaseAddsAllWrongFalsely : Prop := fnDiffFirstReleaseAddsAllRow.holds Try.pinned (OpenSpec.ofChange fnDiffFirstReleaseAddsAllWrong)

/-- 'zzlaws_internal_bundle_b1.FnCountsAddsOverConcatenation': WHATEVER THE INPUT: true; the input reads as it did. -/
def fnCountsAddsOverConcatenationSpec : ChangeSpec := { name := "fnCountsAddsOverConcatenation", fn := fun _ => fun
  | [d1, d2, d3] => { results := [.lit (.bool true)], args := [d1, d2, d3] }
  | _ => none }
def fnCountsAddsOverConcatenationRow : OpenClaim := { program := "qxb6603865a", sum := "216b4b21a85aa152bcfa980cbee7b42e9c3fb716bdab485fa221cacb3d9cd24c", func := "example.com/moltgate/moltgate/zzlaws_internal_bundle_b1.FnCountsAddsOverConcatenation", spec := "fnCountsAddsOverConcatenation", apart := false }
def FnCountsAddsOverConcatenationSaid : Prop := fnCountsAddsOverConcatenationRow.holds Try.pinned (OpenSpec.ofChange fnCountsAddsOverConcatenationSpec)

/-- ITS FALSE NEIGHBOUR: 'it returns false'. Refute it at one input. -/
def fnCountsAddsOverConcatenationWrong : ChangeSpec := { name := "fnCountsAddsOverConcatenation", fn := fun _ => fun
  | [d1, d2, d3] => { results := [.lit (.bool false)], args := [d1, d2, d3] }
  | _ => none }
def FnCountsAddsOverConcatenationWrongFalsely : Prop := fnCountsAddsOverConcatenationRow.holds Try.pinned (OpenSpec.ofChange fnCountsAddsOverConcatenationWrong)

/-- 'zzlaws_internal_bundle_b1.FnSameArgvMatchesEncoding': WHATEVER THE INPUT: true; the input reads as it did. -/
def fnSameArgvMatchesEncodingSpec : ChangeSpec := { name := "fnSameArgvMatchesEncoding", fn := fun _ => fun
  | [d1, d2] => { results := [.lit (.bool true)], args := [d1, d2] }
  | _ => none }
def fnSameArgvMatchesEncodingRow : OpenClaim := { program := "qxb6603865a", sum := "216b4b21a85aa152bcfa980cbee7b42e9c3fb716bdab485fa221cacb3d9cd24c", func := "example.com/moltgate/moltgate/zzlaws_internal_bundle_b1.FnSameArgvMatchesEncoding", spec := "fnSameArgvMatchesEncoding", apart := false }
def FnSameArgvMatchesEncodingSaid : Prop := fnSameArgvMatchesEncodingRow.holds Try.pinned (OpenSpec.ofChange fnSameArgvMatchesEncodingSpec)

/-- ITS FALSE NEIGHBOUR: 'it returns false'. Refute it at one input. -/
def fnSameArgvMatchesEncodingWrong : ChangeSpec := { name := "fnSameArgvMatchesEncoding", fn := fun _ => fun
  | [d1, d2] => { results := [.lit (.bool false)], args := [d1, d2] }
  | _ => none }
def FnSameArgvMatchesEncodingWrongFalsely : Prop := fnSameArgvMatchesEncodingRow.holds Try.pinned (OpenSpec.ofChange fnSameArgvMatchesEncodingWrong)

/-- 'zzlaws_internal_bundle_b1.FnSameArgvIsEquivalence': WHATEVER THE INPUT: true; the input reads as it did. -/
def fnSameArgvIsEquivalenceSpec : ChangeSpec := { name := "fnSameArgvIsEquivalence", fn := fun _ => fun
  | [d1, d2, d3] => { results := [.lit (.bool true)], args := [d1, d2, d3] }
  | _ => none }
def fnSameArgvIsEquivalenceRow : OpenClaim := { program := "qxb6603865a", sum := "216b4b21a85aa152bcfa980cbee7b42e9c3fb716bdab485fa221cacb3d9cd24c", func := "example.com/moltgate/moltgate/zzlaws_internal_bundle_b1.FnSameArgvIsEquivalence", spec := "fnSameArgvIsEquivalence", apart := false }
def FnSameArgvIsEquivalenceSaid : Prop := fnSameArgvIsEquivalenceRow.holds Try.pinned (OpenSpec.ofChange fnSameArgvIsEquivalenceSpec)

/-- ITS FALSE NEIGHBOUR: 'it returns false'. Refute it at one input. -/
def fnSameArgvIsEquivalenceWrong : ChangeSpec := { name := "fnSameArgvIsEquivalence", fn := fun _ => fun
  | [d1, d2, d3] => { results := [.lit (.bool false)], args := [d1, d2, d3] }
  | _ => none }
def FnSameArgvIsEquivalenceWrongFalsely : Prop := fnSameArgvIsEquivalenceRow.holds Try.pinned (OpenSpec.ofChange fnSameArgvIsEquivalenceWrong)

end Rows
end Go.Proofs.Qxb6603865a
