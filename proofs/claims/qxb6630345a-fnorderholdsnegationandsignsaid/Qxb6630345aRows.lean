/-
  No cell of these rows narrows 'for every input' (looked for: loops, veiled, ifaces, maps, wideKeys, modest, calm, conditions, laid).
  DERIVED. THE GIVEN ROWS OF THIS SEAT. 2 by the template 'for every input the law returns true; each argument reads behind the call as it read before'; 0 by the template 'total and deterministic' (their statements: Qxb6630345aTotals.lean).
  GIVEN WITH THE SEED: the statements are not yours to turn. If you find one false, say at which input.
  Laid BY PROGRAM, IN A SANDBOX (cutbox-rows.mjs): the forced cells as the released guide's own fill.sh prints them over the translation 75bac517b8fc7d45… (all of the seat's roots in one cut). By AI agents, Wed Nov 11 2026. No macro, syntax, notation, axiom, sorry.
-/
import Derived.Test.Qxb6630345aChecked
import GoSem.Claim
import GoSem.ClaimJoined
import GoSem.ClaimMapViews
import Derived.JoinedTies
import Derived.KernelRfl
namespace Go.Proofs.Qxb6630345a
/- THE CELL 'sum', in the pinned program and in every row, IS THE sha256 OF THE DUMP (.gsa) THAT Qxb6630345aProg.lean LOADS. Nothing in Lean hashes anything: it is a label: what it is worth is what the hold of that sum in a sandbox is worth. -/
noncomputable def Try.pinned : Pinned := { name := "qxb6630345a", sum := "75bac517b8fc7d45287c65354b2850a0e2ee9365db915544eb7049089afd3f04", checked := Try.checked }
namespace Rows
def none {H : Type} : Left H := { results := [], args := [] }

/-- 'zzlaws_root_b1.FnOrderHoldsNegationAndSign': WHATEVER THE INPUT: true; the input reads as it did. -/
def fnOrderHoldsNegationAndSignSpec : ChangeSpec := { name := "fnOrderHoldsNegationAndSign", fn := fun _ => fun
  | [d1, d2] => { results := [.lit (.bool true)], args := [d1, d2] }
  | _ => none }
def fnOrderHoldsNegationAndSignRow : OpenClaim := { program := "qxb6630345a", sum := "75bac517b8fc7d45287c65354b2850a0e2ee9365db915544eb7049089afd3f04", func := "example.com/salience/salience/zzlaws_root_b1.FnOrderHoldsNegationAndSign", spec := "fnOrderHoldsNegationAndSign", apart := false }
def FnOrderHoldsNegationAndSignSaid : Prop := fnOrderHoldsNegationAndSignRow.holds Try.pinned (OpenSpec.ofChange fnOrderHoldsNegationAndSignSpec)

/-- ITS FALSE NEIGHBOUR: 'it returns false'. Refute it at one input. -/
def fnOrderHoldsNegationAndSignWrong : ChangeSpec := { name := "fnOrderHoldsNegationAndSign", fn := fun _ => fun
  | [d1, d2] => { results := [.lit (.bool false)], args := [d1, d2] }
  | _ => none }
def FnOrderHoldsNegationAndSignWrongFalsely : Prop := fnOrderHoldsNegationAndSignRow.holds Try.pinned (OpenSpec.ofChange fnOrderHoldsNegationAndSignWrong)

/-- 'zzlaws_root_b1.FnOrderHoldsMirrorAndTrichotomy': WHATEVER THE INPUT: true; the input reads as it did. -/
def fnOrderHoldsMirrorAndTrichotomySpec : ChangeSpec := { name := "fnOrderHoldsMirrorAndTrichotomy", fn := fun _ => fun
  | [d1, d2] => { results := [.lit (.bool true)], args := [d1, d2] }
  | _ => none }
def fnOrderHoldsMirrorAndTrichotomyRow : OpenClaim := { program := "qxb6630345a", sum := "75bac517b8fc7d45287c65354b2850a0e2ee9365db915544eb7049089afd3f04", func := "example.com/salience/salience/zzlaws_root_b1.FnOrderHoldsMirrorAndTrichotomy", spec := "fnOrderHoldsMirrorAndTrichotomy", apart := false }
def FnOrderHoldsMirrorAndTrichotomySaid : Prop := fnOrderHoldsMirrorAndTrichotomyRow.holds Try.pinned (OpenSpec.ofChange fnOrderHoldsMirrorAndTrichotomySpec)

/-- ITS FALSE NEIGHBOUR: 'it returns false'. Refute it at one input. -/
def fnOrderHoldsMirrorAndTrichotomyWrong : ChangeSpec := { name := "fnOrderHoldsMirrorAndTrichotomy", fn := fun _ => fun
  | [d1, d2] => { results := [.lit (.bool false)], args := [d1, d2] }
  | _ => none }
def FnOrderHoldsMirrorAndTrichotomyWrongFalsely : Prop := fnOrderHoldsMirrorAndTrichotomyRow.holds Try.pinned (OpenSpec.ofChange fnOrderHoldsMirrorAndTrichotomyWrong)

end Rows
end Go.Proofs.Qxb6630345a
