/-
  No cell of these rows narrows 'for every input' (looked for: loops, veiled, ifaces, maps, wideKeys, modest, calm, conditions, laid).
  DERIVED. THE GIVEN ROWS OF THIS SEAT. 9 by the template 'for every input the law returns true; each argument reads behind the call as it read before'; 0 by the template 'total and deterministic' (their statements: Qxb6600476aTotals.lean).
  GIVEN WITH THE SEED: the statements are not yours to turn. If you find one false, say at which input.
  Laid BY PROGRAM, IN A SANDBOX (cutbox-rows.mjs): the forced cells as the released guide's own fill.sh prints them over the translation b3f460538305caff… (all of the seat's roots in one cut). By AI agents, Wed Nov 11 2026. No macro, syntax, notation, axiom, sorry.
-/
import Derived.Test.Qxb6600476aChecked
import GoSem.Claim
import GoSem.ClaimJoined
import GoSem.ClaimMapViews
import Derived.JoinedTies
import Derived.KernelRfl
namespace Go.Proofs.Qxb6600476a
/- THE CELL 'sum', in the pinned program and in every row, IS THE sha256 OF THE DUMP (.gsa) THAT Qxb6600476aProg.lean LOADS. Nothing in Lean hashes anything: it is a label: what it is worth is what the hold of that sum in a sandbox is worth. -/
noncomputable def Try.pinned : Pinned := { name := "qxb6600476a", sum := "b3f460538305caff11bfc43f0e48df245f678d6229314b471faa3910c779c67e", checked := Try.checked }
namespace Rows
def none {H : Type} : Left H := { results := [], args := [] }

/-- 'zzlaws_root_b1.FnCompareMatchesBottomFirstOrder': WHATEVER THE INPUT: true; the input reads as it did. -/
def fnCompareMatchesBottomFirstOrderSpec : ChangeSpec := { name := "fnCompareMatchesBottomFirstOrder", fn := fun _ => fun
  | [d1, d2, d3, d4] => { results := [.lit (.bool true)], args := [d1, d2, d3, d4] }
  | _ => none }
def fnCompareMatchesBottomFirstOrderRow : OpenClaim := { program := "qxb6600476a", sum := "b3f460538305caff11bfc43f0e48df245f678d6229314b471faa3910c779c67e", func := "example.com/kappaset/kappaset/zzlaws_root_b1.FnCompareMatchesBottomFirstOrder", spec := "fnCompareMatchesBottomFirstOrder", apart := false }
def FnCompareMatchesBottomFirstOrderSaid : Prop := fnCompareMatchesBottomFirstOrderRow.holds Try.pinned (OpenSpec.ofChange fnCompareMatchesBottomFirstOrderSpec)

/-- ITS FALSE NEIGHBOUR: 'it returns false'. Refute it at one input. -/
def fnCompareMatchesBottomFirstOrderWrong : ChangeSpec := { name := "fnCompareMatchesBottomFirstOrder", fn := fun _ => fun
  | [d1, d2, d3, d4] => { results := [.lit (.bool false)], args := [d1, d2, d3, d4] }
  | _ => none }
def FnCompareMatchesBottomFirstOrderWrongFalsely : Prop := fnCompareMatchesBottomFirstOrderRow.holds Try.pinned (OpenSpec.ofChange fnCompareMatchesBottomFirstOrderWrong)

/-- 'zzlaws_root_b1.FnCompareAntisymmetric': WHATEVER THE INPUT: true; the input reads as it did. -/
def fnCompareAntisymmetricSpec : ChangeSpec := { name := "fnCompareAntisymmetric", fn := fun _ => fun
  | [d1, d2, d3, d4] => { results := [.lit (.bool true)], args := [d1, d2, d3, d4] }
  | _ => none }
def fnCompareAntisymmetricRow : OpenClaim := { program := "qxb6600476a", sum := "b3f460538305caff11bfc43f0e48df245f678d6229314b471faa3910c779c67e", func := "example.com/kappaset/kappaset/zzlaws_root_b1.FnCompareAntisymmetric", spec := "fnCompareAntisymmetric", apart := false }
def FnCompareAntisymmetricSaid : Prop := fnCompareAntisymmetricRow.holds Try.pinned (OpenSpec.ofChange fnCompareAntisymmetricSpec)

/-- ITS FALSE NEIGHBOUR: 'it returns false'. Refute it at one input. -/
def fnCompareAntisymmetricWrong : ChangeSpec := { name := "fnCompareAntisymmetric", fn := fun _ => fun
  | [d1, d2, d3, d4] => { results := [.lit (.bool false)], args := [d1, d2, d3, d4] }
  | _ => none }
def FnCompareAntisymmetricWrongFalsely : Prop := fnCompareAntisymmetricRow.holds Try.pinned (OpenSpec.ofChange fnCompareAntisymmetricWrong)

/-- 'zzlaws_root_b1.FnCompareTransitive': WHATEVER THE INPUT: true; the input reads as it did. -/
def fnCompareTransitiveSpec : ChangeSpec := { name := "fnCompareTransitive", fn := fun _ => fun
  | [d1, d2, d3, d4, d5, d6] => { results := [.lit (.bool true)], args := [d1, d2, d3, d4, d5, d6] }
  | _ => none }
def fnCompareTransitiveRow : OpenClaim := { program := "qxb6600476a", sum := "b3f460538305caff11bfc43f0e48df245f678d6229314b471faa3910c779c67e", func := "example.com/kappaset/kappaset/zzlaws_root_b1.FnCompareTransitive", spec := "fnCompareTransitive", apart := false }
def FnCompareTransitiveSaid : Prop := fnCompareTransitiveRow.holds Try.pinned (OpenSpec.ofChange fnCompareTransitiveSpec)

/-- ITS FALSE NEIGHBOUR: 'it returns false'. Refute it at one input. -/
def fnCompareTransitiveWrong : ChangeSpec := { name := "fnCompareTransitive", fn := fun _ => fun
  | [d1, d2, d3, d4, d5, d6] => { results := [.lit (.bool false)], args := [d1, d2, d3, d4, d5, d6] }
  | _ => none }
def FnCompareTransitiveWrongFalsely : Prop := fnCompareTransitiveRow.holds Try.pinned (OpenSpec.ofChange fnCompareTransitiveWrong)

/-- 'zzlaws_root_b1.FnRenumberMatchesRankModel': WHATEVER THE INPUT: true; the input reads as it did. -/
def fnRenumberMatchesRankModelSpec : ChangeSpec := { name := "fnRenumberMatchesRankModel", fn := fun _ => fun
  | [d1, d2] => { results := [.lit (.bool true)], args := [d1, d2] }
  | _ => none }
def fnRenumberMatchesRankModelRow : OpenClaim := { program := "qxb6600476a", sum := "b3f460538305caff11bfc43f0e48df245f678d6229314b471faa3910c779c67e", func := "example.com/kappaset/kappaset/zzlaws_root_b1.FnRenumberMatchesRankModel", spec := "fnRenumberMatchesRankModel", recurses := true, apart := false }
def FnRenumberMatchesRankModelSaid : Prop := fnRenumberMatchesRankModelRow.holds Try.pinned (OpenSpec.ofChange fnRenumberMatchesRankModelSpec)

/-- ITS FALSE NEIGHBOUR: 'it returns false'. Refute it at one input. -/
def fnRenumberMatchesRankModelWrong : ChangeSpec := { name := "fnRenumberMatchesRankModel", fn := fun _ => fun
  | [d1, d2] => { results := [.lit (.bool false)], args := [d1, d2] }
  | _ => none }
def FnRenumberMatchesRankModelWrongFalsely : Prop := fnRenumberMatchesRankModelRow.holds Try.pinned (OpenSpec.ofChange fnRenumberMatchesRankModelWrong)

/-- 'zzlaws_root_b1.FnRenumberIdempotent': WHATEVER THE INPUT: true; the input reads as it did. -/
def fnRenumberIdempotentSpec : ChangeSpec := { name := "fnRenumberIdempotent", fn := fun _ => fun
  | [d1, d2] => { results := [.lit (.bool true)], args := [d1, d2] }
  | _ => none }
def fnRenumberIdempotentRow : OpenClaim := { program := "qxb6600476a", sum := "b3f460538305caff11bfc43f0e48df245f678d6229314b471faa3910c779c67e", func := "example.com/kappaset/kappaset/zzlaws_root_b1.FnRenumberIdempotent", spec := "fnRenumberIdempotent", recurses := true, apart := false }
def FnRenumberIdempotentSaid : Prop := fnRenumberIdempotentRow.holds Try.pinned (OpenSpec.ofChange fnRenumberIdempotentSpec)

/-- ITS FALSE NEIGHBOUR: 'it returns false'. Refute it at one input. -/
def fnRenumberIdempotentWrong : ChangeSpec := { name := "fnRenumberIdempotent", fn := fun _ => fun
  | [d1, d2] => { results := [.lit (.bool false)], args := [d1, d2] }
  | _ => none }
def FnRenumberIdempotentWrongFalsely : Prop := fnRenumberIdempotentRow.holds Try.pinned (OpenSpec.ofChange fnRenumberIdempotentWrong)

/-- 'zzlaws_root_b1.FnRenumberInvertsThroughBeyond': WHATEVER THE INPUT: true; the input reads as it did. -/
def fnRenumberInvertsThroughBeyondSpec : ChangeSpec := { name := "fnRenumberInvertsThroughBeyond", fn := fun _ => fun
  | [d1, d2] => { results := [.lit (.bool true)], args := [d1, d2] }
  | _ => none }
def fnRenumberInvertsThroughBeyondRow : OpenClaim := { program := "qxb6600476a", sum := "b3f460538305caff11bfc43f0e48df245f678d6229314b471faa3910c779c67e", func := "example.com/kappaset/kappaset/zzlaws_root_b1.FnRenumberInvertsThroughBeyond", spec := "fnRenumberInvertsThroughBeyond", recurses := true, apart := false }
def FnRenumberInvertsThroughBeyondSaid : Prop := fnRenumberInvertsThroughBeyondRow.holds Try.pinned (OpenSpec.ofChange fnRenumberInvertsThroughBeyondSpec)

/-- ITS FALSE NEIGHBOUR: 'it returns false'. Refute it at one input. -/
def fnRenumberInvertsThroughBeyondWrong : ChangeSpec := { name := "fnRenumberInvertsThroughBeyond", fn := fun _ => fun
  | [d1, d2] => { results := [.lit (.bool false)], args := [d1, d2] }
  | _ => none }
def FnRenumberInvertsThroughBeyondWrongFalsely : Prop := fnRenumberInvertsThroughBeyondRow.holds Try.pinned (OpenSpec.ofChange fnRenumberInvertsThroughBeyondWrong)

/-- 'zzlaws_root_b1.FnExcessFindsFirstOverflowingInstance': WHATEVER THE INPUT: true; the input reads as it did. -/
def fnExcessFindsFirstOverflowingInstanceSpec : ChangeSpec := { name := "fnExcessFindsFirstOverflowingInstance", fn := fun _ => fun
  | [d1, d2, d3] => { results := [.lit (.bool true)], args := [d1, d2, d3] }
  | _ => none }
def fnExcessFindsFirstOverflowingInstanceRow : OpenClaim := { program := "qxb6600476a", sum := "b3f460538305caff11bfc43f0e48df245f678d6229314b471faa3910c779c67e", func := "example.com/kappaset/kappaset/zzlaws_root_b1.FnExcessFindsFirstOverflowingInstance", spec := "fnExcessFindsFirstOverflowingInstance", apart := false }
def FnExcessFindsFirstOverflowingInstanceSaid : Prop := fnExcessFindsFirstOverflowingInstanceRow.holds Try.pinned (OpenSpec.ofChange fnExcessFindsFirstOverflowingInstanceSpec)

/-- ITS FALSE NEIGHBOUR: 'it returns false'. Refute it at one input. -/
def fnExcessFindsFirstOverflowingInstanceWrong : ChangeSpec := { name := "fnExcessFindsFirstOverflowingInstance", fn := fun _ => fun
  | [d1, d2, d3] => { results := [.lit (.bool false)], args := [d1, d2, d3] }
  | _ => none }
def FnExcessFindsFirstOverflowingInstanceWrongFalsely : Prop := fnExcessFindsFirstOverflowingInstanceRow.holds Try.pinned (OpenSpec.ofChange fnExcessFindsFirstOverflowingInstanceWrong)

/-- 'zzlaws_root_b1.FnExcessPrefixAgrees': WHATEVER THE INPUT: true; the input reads as it did. -/
def fnExcessPrefixAgreesSpec : ChangeSpec := { name := "fnExcessPrefixAgrees", fn := fun _ => fun
  | [d1, d2, d3, d4] => { results := [.lit (.bool true)], args := [d1, d2, d3, d4] }
  | _ => none }
def fnExcessPrefixAgreesRow : OpenClaim := { program := "qxb6600476a", sum := "b3f460538305caff11bfc43f0e48df245f678d6229314b471faa3910c779c67e", func := "example.com/kappaset/kappaset/zzlaws_root_b1.FnExcessPrefixAgrees", spec := "fnExcessPrefixAgrees", apart := false }
def FnExcessPrefixAgreesSaid : Prop := fnExcessPrefixAgreesRow.holds Try.pinned (OpenSpec.ofChange fnExcessPrefixAgreesSpec)

/-- ITS FALSE NEIGHBOUR: 'it returns false'. Refute it at one input. -/
def fnExcessPrefixAgreesWrong : ChangeSpec := { name := "fnExcessPrefixAgrees", fn := fun _ => fun
  | [d1, d2, d3, d4] => { results := [.lit (.bool false)], args := [d1, d2, d3, d4] }
  | _ => none }
def FnExcessPrefixAgreesWrongFalsely : Prop := fnExcessPrefixAgreesRow.holds Try.pinned (OpenSpec.ofChange fnExcessPrefixAgreesWrong)

/-- 'zzlaws_root_b1.FnExcessMoreValuesNeverLater': WHATEVER THE INPUT: true; the input reads as it did. -/
def fnExcessMoreValuesNeverLaterSpec : ChangeSpec := { name := "fnExcessMoreValuesNeverLater", fn := fun _ => fun
  | [d1, d2, d3, d4, d5] => { results := [.lit (.bool true)], args := [d1, d2, d3, d4, d5] }
  | _ => none }
def fnExcessMoreValuesNeverLaterRow : OpenClaim := { program := "qxb6600476a", sum := "b3f460538305caff11bfc43f0e48df245f678d6229314b471faa3910c779c67e", func := "example.com/kappaset/kappaset/zzlaws_root_b1.FnExcessMoreValuesNeverLater", spec := "fnExcessMoreValuesNeverLater", apart := false }
def FnExcessMoreValuesNeverLaterSaid : Prop := fnExcessMoreValuesNeverLaterRow.holds Try.pinned (OpenSpec.ofChange fnExcessMoreValuesNeverLaterSpec)

/-- ITS FALSE NEIGHBOUR: 'it returns false'. Refute it at one input. -/
def fnExcessMoreValuesNeverLaterWrong : ChangeSpec := { name := "fnExcessMoreValuesNeverLater", fn := fun _ => fun
  | [d1, d2, d3, d4, d5] => { results := [.lit (.bool false)], args := [d1, d2, d3, d4, d5] }
  | _ => none }
def FnExcessMoreValuesNeverLaterWrongFalsely : Prop := fnExcessMoreValuesNeverLaterRow.holds Try.pinned (OpenSpec.ofChange fnExcessMoreValuesNeverLaterWrong)

end Rows
end Go.Proofs.Qxb6600476a
