/-
  No cell of these rows narrows 'for every input' (looked for: loops, veiled, ifaces, maps, wideKeys, modest, calm, conditions, laid).
  DERIVED. THE GIVEN ROWS OF THIS SEAT. 2 by the template 'for every input the law returns true; each argument reads behind the call as it read before'; 0 by the template 'total and deterministic' (their statements: Qxb6630298aTotals.lean).
  GIVEN WITH THE SEED: the statements are not yours to turn. If you find one false, say at which input.
  Laid BY PROGRAM, IN A SANDBOX (cutbox-rows.mjs): the forced cells as the released guide's own fill.sh prints them over the translation 7a6dcbafe1144260… (all of the seat's roots in one cut). By AI agents, Wed Nov 11 2026. No macro, syntax, notation, axiom, sorry.
-/
import Derived.Test.Qxb6630298aChecked
import GoSem.Claim
import GoSem.ClaimJoined
import GoSem.ClaimMapViews
import Derived.JoinedTies
import Derived.KernelRfl
namespace Go.Proofs.Qxb6630298a
/- THE CELL 'sum', in the pinned program and in every row, IS THE sha256 OF THE DUMP (.gsa) THAT Qxb6630298aProg.lean LOADS. Nothing in Lean hashes anything: it is a label: what it is worth is what the hold of that sum in a sandbox is worth. -/
noncomputable def Try.pinned : Pinned := { name := "qxb6630298a", sum := "7a6dcbafe1144260ba72b360b0c436902b8c9e7a0e716578a8111de295a731f7", checked := Try.checked }
namespace Rows
def none {H : Type} : Left H := { results := [], args := [] }

/-- 'zzlaws_internal_clock_b1.FnWithoutIsSetDifference': WHATEVER THE INPUT: true; the input reads as it did. -/
def fnWithoutIsSetDifferenceSpec : ChangeSpec := { name := "fnWithoutIsSetDifference", fn := fun _ => fun
  | [d1, d2] => { results := [.lit (.bool true)], args := [d1, d2] }
  | _ => none }
def fnWithoutIsSetDifferenceRow : OpenClaim := { program := "qxb6630298a", sum := "7a6dcbafe1144260ba72b360b0c436902b8c9e7a0e716578a8111de295a731f7", func := "example.com/dotset/dotset/zzlaws_internal_clock_b1.FnWithoutIsSetDifference", spec := "fnWithoutIsSetDifference", unfollowed := true, recurses := true, apart := false }
def FnWithoutIsSetDifferenceSaid : Prop := fnWithoutIsSetDifferenceRow.holds Try.pinned (OpenSpec.ofChange fnWithoutIsSetDifferenceSpec)

/-- ITS FALSE NEIGHBOUR: 'it returns false'. Refute it at one input. -/
def fnWithoutIsSetDifferenceWrong : ChangeSpec := { name := "fnWithoutIsSetDifference", fn := fun _ => fun
  | [d1, d2] => { results := [.lit (.bool false)], args := [d1, d2] }
  | _ => none }
def FnWithoutIsSetDifferenceWrongFalsely : Prop := fnWithoutIsSetDifferenceRow.holds Try.pinned (OpenSpec.ofChange fnWithoutIsSetDifferenceWrong)

/-- 'zzlaws_internal_clock_b1.FnWithoutEmptySelfAndTwice': WHATEVER THE INPUT: true; the input reads as it did. -/
def fnWithoutEmptySelfAndTwiceSpec : ChangeSpec := { name := "fnWithoutEmptySelfAndTwice", fn := fun _ => fun
  | [d1, d2] => { results := [.lit (.bool true)], args := [d1, d2] }
  | _ => none }
def fnWithoutEmptySelfAndTwiceRow : OpenClaim := { program := "qxb6630298a", sum := "7a6dcbafe1144260ba72b360b0c436902b8c9e7a0e716578a8111de295a731f7", func := "example.com/dotset/dotset/zzlaws_internal_clock_b1.FnWithoutEmptySelfAndTwice", spec := "fnWithoutEmptySelfAndTwice", unfollowed := true, recurses := true, apart := false }
def FnWithoutEmptySelfAndTwiceSaid : Prop := fnWithoutEmptySelfAndTwiceRow.holds Try.pinned (OpenSpec.ofChange fnWithoutEmptySelfAndTwiceSpec)

/-- ITS FALSE NEIGHBOUR: 'it returns false'. Refute it at one input. -/
def fnWithoutEmptySelfAndTwiceWrong : ChangeSpec := { name := "fnWithoutEmptySelfAndTwice", fn := fun _ => fun
  | [d1, d2] => { results := [.lit (.bool false)], args := [d1, d2] }
  | _ => none }
def FnWithoutEmptySelfAndTwiceWrongFalsely : Prop := fnWithoutEmptySelfAndTwiceRow.holds Try.pinned (OpenSpec.ofChange fnWithoutEmptySelfAndTwiceWrong)

end Rows
end Go.Proofs.Qxb6630298a
