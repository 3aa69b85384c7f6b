/-
  No cell of these rows narrows 'for every input' (looked for: loops, veiled, ifaces, maps, wideKeys, modest, calm, conditions, laid).
  DERIVED. THE GIVEN ROWS OF THIS SEAT. 4 by the template 'for every input the law returns true; each argument reads behind the call as it read before'; 0 by the template 'total and deterministic' (their statements: Qxb6602602aTotals.lean).
  GIVEN WITH THE SEED: the statements are not yours to turn. If you find one false, say at which input.
  Laid BY PROGRAM, IN A SANDBOX (cutbox-rows.mjs): the forced cells as the released guide's own fill.sh prints them over the translation c9e43fc8ec7d6b38… (all of the seat's roots in one cut). By AI agents, Wed Nov 11 2026. No macro, syntax, notation, axiom, sorry.
-/
import Derived.Test.Qxb6602602aChecked
import GoSem.Claim
import GoSem.ClaimJoined
import GoSem.ClaimMapViews
import Derived.JoinedTies
import Derived.KernelRfl
namespace Go.Proofs.Qxb6602602a
/- THE CELL 'sum', in the pinned program and in every row, IS THE sha256 OF THE DUMP (.gsa) THAT Qxb6602602aProg.lean LOADS. Nothing in Lean hashes anything: it is a label: what it is worth is what the hold of that sum in a sandbox is worth. -/
noncomputable def Try.pinned : Pinned := { name := "qxb6602602a", sum := "c9e43fc8ec7d6b3859db91fcab6de5174c9e8f938c9d2c860e94d341e3c8ff5a", checked := Try.checked }
namespace Rows
def none {H : Type} : Left H := { results := [], args := [] }

/-- 'zzlaws_root_b1.FnJSONNumberSyntaxMatchesAutomaton': WHATEVER THE INPUT: true; the input reads as it did. -/
def fnJSONNumberSyntaxMatchesAutomatonSpec : ChangeSpec := { name := "fnJSONNumberSyntaxMatchesAutomaton", fn := fun _ => fun
  | [d] => { results := [.lit (.bool true)], args := [d] }
  | _ => none }
def fnJSONNumberSyntaxMatchesAutomatonRow : OpenClaim := { program := "qxb6602602a", sum := "c9e43fc8ec7d6b3859db91fcab6de5174c9e8f938c9d2c860e94d341e3c8ff5a", func := "example.com/facet/facet/zzlaws_root_b1.FnJSONNumberSyntaxMatchesAutomaton", spec := "fnJSONNumberSyntaxMatchesAutomaton", apart := false }
def FnJSONNumberSyntaxMatchesAutomatonSaid : Prop := fnJSONNumberSyntaxMatchesAutomatonRow.holds Try.pinned (OpenSpec.ofChange fnJSONNumberSyntaxMatchesAutomatonSpec)

/-- ITS FALSE NEIGHBOUR: 'it returns false'. Refute it at one input. -/
def fnJSONNumberSyntaxMatchesAutomatonWrong : ChangeSpec := { name := "fnJSONNumberSyntaxMatchesAutomaton", fn := fun _ => fun
  | [d] => { results := [.lit (.bool false)], args := [d] }
  | _ => none }
def FnJSONNumberSyntaxMatchesAutomatonWrongFalsely : Prop := fnJSONNumberSyntaxMatchesAutomatonRow.holds Try.pinned (OpenSpec.ofChange fnJSONNumberSyntaxMatchesAutomatonWrong)

/-- 'zzlaws_root_b1.FnJSONNumberSyntaxSignAndSuffixes': WHATEVER THE INPUT: true; the input reads as it did. -/
def fnJSONNumberSyntaxSignAndSuffixesSpec : ChangeSpec := { name := "fnJSONNumberSyntaxSignAndSuffixes", fn := fun _ => fun
  | [d] => { results := [.lit (.bool true)], args := [d] }
  | _ => none }
def fnJSONNumberSyntaxSignAndSuffixesRow : OpenClaim := { program := "qxb6602602a", sum := "c9e43fc8ec7d6b3859db91fcab6de5174c9e8f938c9d2c860e94d341e3c8ff5a", func := "example.com/facet/facet/zzlaws_root_b1.FnJSONNumberSyntaxSignAndSuffixes", spec := "fnJSONNumberSyntaxSignAndSuffixes", apart := false }
def FnJSONNumberSyntaxSignAndSuffixesSaid : Prop := fnJSONNumberSyntaxSignAndSuffixesRow.holds Try.pinned (OpenSpec.ofChange fnJSONNumberSyntaxSignAndSuffixesSpec)

/-- ITS FALSE NEIGHBOUR: 'it returns false'. Refute it at one input. -/
def fnJSONNumberSyntaxSignAndSuffixesWrong : ChangeSpec := { name := "fnJSONNumberSyntaxSignAndSuffixes", fn := fun _ => fun
  | [d] => { results := [.lit (.bool false)], args := [d] }
  | _ => none }
def FnJSONNumberSyntaxSignAndSuffixesWrongFalsely : Prop := fnJSONNumberSyntaxSignAndSuffixesRow.holds Try.pinned (OpenSpec.ofChange fnJSONNumberSyntaxSignAndSuffixesWrong)

/-- 'zzlaws_root_b1.FnEditDistanceSymmetricAndReversalFree': WHATEVER THE INPUT: true; the input reads as it did. -/
def fnEditDistanceSymmetricAndReversalFreeSpec : ChangeSpec := { name := "fnEditDistanceSymmetricAndReversalFree", fn := fun _ => fun
  | [d1, d2] => { results := [.lit (.bool true)], args := [d1, d2] }
  | _ => none }
def fnEditDistanceSymmetricAndReversalFreeRow : OpenClaim := { program := "qxb6602602a", sum := "c9e43fc8ec7d6b3859db91fcab6de5174c9e8f938c9d2c860e94d341e3c8ff5a", func := "example.com/facet/facet/zzlaws_root_b1.FnEditDistanceSymmetricAndReversalFree", spec := "fnEditDistanceSymmetricAndReversalFree", apart := false }
def FnEditDistanceSymmetricAndReversalFreeSaid : Prop := fnEditDistanceSymmetricAndReversalFreeRow.holds Try.pinned (OpenSpec.ofChange fnEditDistanceSymmetricAndReversalFreeSpec)

/-- ITS FALSE NEIGHBOUR: 'it returns false'. Refute it at one input. -/
def fnEditDistanceSymmetricAndReversalFreeWrong : ChangeSpec := { name := "fnEditDistanceSymmetricAndReversalFree", fn := fun _ => fun
  | [d1, d2] => { results := [.lit (.bool false)], args := [d1, d2] }
  | _ => none }
def FnEditDistanceSymmetricAndReversalFreeWrongFalsely : Prop := fnEditDistanceSymmetricAndReversalFreeRow.holds Try.pinned (OpenSpec.ofChange fnEditDistanceSymmetricAndReversalFreeWrong)

/-- 'zzlaws_root_b1.FnEditDistanceBoundsAndOneStep': WHATEVER THE INPUT: true; the input reads as it did. -/
def fnEditDistanceBoundsAndOneStepSpec : ChangeSpec := { name := "fnEditDistanceBoundsAndOneStep", fn := fun _ => fun
  | [d1, d2, d3] => { results := [.lit (.bool true)], args := [d1, d2, d3] }
  | _ => none }
def fnEditDistanceBoundsAndOneStepRow : OpenClaim := { program := "qxb6602602a", sum := "c9e43fc8ec7d6b3859db91fcab6de5174c9e8f938c9d2c860e94d341e3c8ff5a", func := "example.com/facet/facet/zzlaws_root_b1.FnEditDistanceBoundsAndOneStep", spec := "fnEditDistanceBoundsAndOneStep", apart := false }
def FnEditDistanceBoundsAndOneStepSaid : Prop := fnEditDistanceBoundsAndOneStepRow.holds Try.pinned (OpenSpec.ofChange fnEditDistanceBoundsAndOneStepSpec)

/-- ITS FALSE NEIGHBOUR: 'it returns false'. Refute it at one input. -/
def fnEditDistanceBoundsAndOneStepWrong : ChangeSpec := { name := "fnEditDistanceBoundsAndOneStep", fn := fun _ => fun
  | [d1, d2, d3] => { results := [.lit (.bool false)], args := [d1, d2, d3] }
  | _ => none }
def FnEditDistanceBoundsAndOneStepWrongFalsely : Prop := fnEditDistanceBoundsAndOneStepRow.holds Try.pinned (OpenSpec.ofChange fnEditDistanceBoundsAndOneStepWrong)

end Rows
end Go.Proofs.Qxb6602602a
