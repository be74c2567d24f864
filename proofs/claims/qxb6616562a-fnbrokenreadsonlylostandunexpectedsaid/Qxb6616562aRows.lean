/-
  No cell of these rows narrows 'for every input' (looked for: loops, veiled, ifaces, maps, wideKeys, modest, calm, conditions, laid).
  DERIVED. THE GIVEN ROWS OF THIS SEAT. 1 by the template 'for every input the law returns true; each argument reads behind the call as it read before'; 0 by the template 'total and deterministic' (their statements: Qxb6616562aTotals.lean).
  GIVEN WITH THE SEED: the statements are not yours to turn. If you find one false, say at which input.
  Laid BY PROGRAM, IN A SANDBOX (cutbox-rows.mjs): the forced cells as the released guide's own fill.sh prints them over the translation 58e4a5610f28077c… (all of the seat's roots in one cut). By AI agents, Wed Nov 11 2026. No macro, syntax, notation, axiom, sorry.
-/
import Derived.Test.Qxb6616562aChecked
import GoSem.Claim
import GoSem.ClaimJoined
import GoSem.ClaimMapViews
import Derived.JoinedTies
import Derived.KernelRfl
namespace Go.Proofs.Qxb6616562a
/- THE CELL 'sum', in the pinned program and in every row, IS THE sha256 OF THE DUMP (.gsa) THAT Qxb6616562aProg.lean LOADS. Nothing in Lean hashes anything: it is a label: what it is worth is what the hold of that sum in a sandbox is worth. -/
noncomputable def Try.pinned : Pinned := { name := "qxb6616562a", sum := "58e4a5610f28077c427e76562d9d37efa19c02671d7b812dcf391409d54f0940", checked := Try.checked }
namespace Rows
def none {H : Type} : Left H := { results := [], args := [] }

/-- 'zzlaws_internal_checker_b1.FnBrokenReadsOnlyLostAndUnexpected': WHATEVER THE INPUT: true; the input reads as it did. -/
def fnBrokenReadsOnlyLostAndUnexpectedSpec : ChangeSpec := { name := "fnBrokenReadsOnlyLostAndUnexpected", fn := fun _ => fun
  | [d1, d2, d3, d4, d5, d6, d7, d8, d9, d10] => { results := [.lit (.bool true)], args := [d1, d2, d3, d4, d5, d6, d7, d8, d9, d10] }
  | _ => none }
def fnBrokenReadsOnlyLostAndUnexpectedRow : OpenClaim := { program := "qxb6616562a", sum := "58e4a5610f28077c427e76562d9d37efa19c02671d7b812dcf391409d54f0940", func := "example.com/quorate/quorate/zzlaws_internal_checker_b1.FnBrokenReadsOnlyLostAndUnexpected", spec := "fnBrokenReadsOnlyLostAndUnexpected", apart := false }
def FnBrokenReadsOnlyLostAndUnexpectedSaid : Prop := fnBrokenReadsOnlyLostAndUnexpectedRow.holds Try.pinned (OpenSpec.ofChange fnBrokenReadsOnlyLostAndUnexpectedSpec)

/-- ITS FALSE NEIGHBOUR: 'it returns false'. Refute it at one input. -/
def fnBrokenReadsOnlyLostAndUnexpectedWrong : ChangeSpec := { name := "fnBrokenReadsOnlyLostAndUnexpected", fn := fun _ => fun
  | [d1, d2, d3, d4, d5, d6, d7, d8, d9, d10] => { results := [.lit (.bool false)], args := [d1, d2, d3, d4, d5, d6, d7, d8, d9, d10] }
  | _ => none }
def FnBrokenReadsOnlyLostAndUnexpectedWrongFalsely : Prop := fnBrokenReadsOnlyLostAndUnexpectedRow.holds Try.pinned (OpenSpec.ofChange fnBrokenReadsOnlyLostAndUnexpectedWrong)

end Rows
end Go.Proofs.Qxb6616562a
