/-
  No cell of these rows narrows 'for every input' (looked for: loops, veiled, ifaces, maps, wideKeys, modest, calm, conditions, laid).
  DERIVED. THE GIVEN ROWS OF THIS SEAT. 1 by the template 'for every input the law returns true; each argument reads behind the call as it read before'; 0 by the template 'total and deterministic' (their statements: Qxb6617090aTotals.lean).
  GIVEN WITH THE SEED: the statements are not yours to turn. If you find one false, say at which input.
  Laid BY PROGRAM, IN A SANDBOX (cutbox-rows.mjs): the forced cells as the released guide's own fill.sh prints them over the translation 25f2b19ab12747c8… (all of the seat's roots in one cut). By AI agents, Wed Nov 11 2026. No macro, syntax, notation, axiom, sorry.
-/
import Derived.Test.Qxb6617090aChecked
import GoSem.Claim
import GoSem.ClaimJoined
import GoSem.ClaimMapViews
import Derived.JoinedTies
import Derived.KernelRfl
namespace Go.Proofs.Qxb6617090a
/- THE CELL 'sum', in the pinned program and in every row, IS THE sha256 OF THE DUMP (.gsa) THAT Qxb6617090aProg.lean LOADS. Nothing in Lean hashes anything: it is a label: what it is worth is what the hold of that sum in a sandbox is worth. -/
noncomputable def Try.pinned : Pinned := { name := "qxb6617090a", sum := "25f2b19ab12747c8a8656aa3c7b0802f5523fd989fe49dbfb76f5dd4060c1eed", checked := Try.checked }
namespace Rows
def none {H : Type} : Left H := { results := [], args := [] }

/-- 'zzlaws_root_b1.FnCompareDoublesSignOfDifference': WHATEVER THE INPUT: true; the input reads as it did. -/
def fnCompareDoublesSignOfDifferenceSpec : ChangeSpec := { name := "fnCompareDoublesSignOfDifference", fn := fun _ => fun
  | [d1, d2] => { results := [.lit (.bool true)], args := [d1, d2] }
  | _ => none }
def fnCompareDoublesSignOfDifferenceRow : OpenClaim := { program := "qxb6617090a", sum := "25f2b19ab12747c8a8656aa3c7b0802f5523fd989fe49dbfb76f5dd4060c1eed", func := "example.com/garm/garm/zzlaws_root_b1.FnCompareDoublesSignOfDifference", spec := "fnCompareDoublesSignOfDifference", apart := false }
def FnCompareDoublesSignOfDifferenceSaid : Prop := fnCompareDoublesSignOfDifferenceRow.holds Try.pinned (OpenSpec.ofChange fnCompareDoublesSignOfDifferenceSpec)

/-- ITS FALSE NEIGHBOUR: 'it returns false'. Refute it at one input. -/
def fnCompareDoublesSignOfDifferenceWrong : ChangeSpec := { name := "fnCompareDoublesSignOfDifference", fn := fun _ => fun
  | [d1, d2] => { results := [.lit (.bool false)], args := [d1, d2] }
  | _ => none }
def FnCompareDoublesSignOfDifferenceWrongFalsely : Prop := fnCompareDoublesSignOfDifferenceRow.holds Try.pinned (OpenSpec.ofChange fnCompareDoublesSignOfDifferenceWrong)

end Rows
end Go.Proofs.Qxb6617090a
