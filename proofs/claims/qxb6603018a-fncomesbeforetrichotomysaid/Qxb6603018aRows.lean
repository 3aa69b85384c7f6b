/-
  No cell of these rows narrows 'for every input' (looked for: loops, veiled, ifaces, maps, wideKeys, modest, calm, conditions, laid).
  DERIVED. THE GIVEN ROWS OF THIS SEAT. 2 by the template 'for every input the law returns true; each argument reads behind the call as it read before'; 0 by the template 'total and deterministic' (their statements: Qxb6603018aTotals.lean).
  GIVEN WITH THE SEED: the statements are not yours to turn. If you find one false, say at which input.
  Laid BY PROGRAM, IN A SANDBOX (cutbox-rows.mjs): the forced cells as the released guide's own fill.sh prints them over the translation 7dacb7d153e89af1… (all of the seat's roots in one cut). By AI agents, Wed Nov 11 2026. No macro, syntax, notation, axiom, sorry.
-/
import Derived.Test.Qxb6603018aChecked
import GoSem.Claim
import GoSem.ClaimJoined
import GoSem.ClaimMapViews
import Derived.JoinedTies
import Derived.KernelRfl
namespace Go.Proofs.Qxb6603018a
/- THE CELL 'sum', in the pinned program and in every row, IS THE sha256 OF THE DUMP (.gsa) THAT Qxb6603018aProg.lean LOADS. Nothing in Lean hashes anything: it is a label: what it is worth is what the hold of that sum in a sandbox is worth. -/
noncomputable def Try.pinned : Pinned := { name := "qxb6603018a", sum := "7dacb7d153e89af1df71944b19f01ed77cd5929b274b274de91b4d1283c5d7fe", checked := Try.checked }
namespace Rows
def none {H : Type} : Left H := { results := [], args := [] }

/-- 'zzlaws_pkg_schema_b1.FnComesBeforeTrichotomy': WHATEVER THE INPUT: true; the input reads as it did. -/
def fnComesBeforeTrichotomySpec : ChangeSpec := { name := "fnComesBeforeTrichotomy", fn := fun _ => fun
  | [d1, d2] => { results := [.lit (.bool true)], args := [d1, d2] }
  | _ => none }
def fnComesBeforeTrichotomyRow : OpenClaim := { program := "qxb6603018a", sum := "7dacb7d153e89af1df71944b19f01ed77cd5929b274b274de91b4d1283c5d7fe", func := "example.com/fieldward/fieldward/zzlaws_pkg_schema_b1.FnComesBeforeTrichotomy", spec := "fnComesBeforeTrichotomy", apart := false }
def FnComesBeforeTrichotomySaid : Prop := fnComesBeforeTrichotomyRow.holds Try.pinned (OpenSpec.ofChange fnComesBeforeTrichotomySpec)

/-- ITS FALSE NEIGHBOUR: 'it returns false'. Refute it at one input. -/
def fnComesBeforeTrichotomyWrong : ChangeSpec := { name := "fnComesBeforeTrichotomy", fn := fun _ => fun
  | [d1, d2] => { results := [.lit (.bool false)], args := [d1, d2] }
  | _ => none }
def FnComesBeforeTrichotomyWrongFalsely : Prop := fnComesBeforeTrichotomyRow.holds Try.pinned (OpenSpec.ofChange fnComesBeforeTrichotomyWrong)

/-- 'zzlaws_pkg_schema_b1.FnComesBeforeTransitive': WHATEVER THE INPUT: true; the input reads as it did. -/
def fnComesBeforeTransitiveSpec : ChangeSpec := { name := "fnComesBeforeTransitive", fn := fun _ => fun
  | [d1, d2, d3] => { results := [.lit (.bool true)], args := [d1, d2, d3] }
  | _ => none }
def fnComesBeforeTransitiveRow : OpenClaim := { program := "qxb6603018a", sum := "7dacb7d153e89af1df71944b19f01ed77cd5929b274b274de91b4d1283c5d7fe", func := "example.com/fieldward/fieldward/zzlaws_pkg_schema_b1.FnComesBeforeTransitive", spec := "fnComesBeforeTransitive", apart := false }
def FnComesBeforeTransitiveSaid : Prop := fnComesBeforeTransitiveRow.holds Try.pinned (OpenSpec.ofChange fnComesBeforeTransitiveSpec)

/-- ITS FALSE NEIGHBOUR: 'it returns false'. Refute it at one input. -/
def fnComesBeforeTransitiveWrong : ChangeSpec := { name := "fnComesBeforeTransitive", fn := fun _ => fun
  | [d1, d2, d3] => { results := [.lit (.bool false)], args := [d1, d2, d3] }
  | _ => none }
def FnComesBeforeTransitiveWrongFalsely : Prop := fnComesBeforeTransitiveRow.holds Try.pinned (OpenSpec.ofChange fnComesBeforeTransitiveWrong)

end Rows
end Go.Proofs.Qxb6603018a
