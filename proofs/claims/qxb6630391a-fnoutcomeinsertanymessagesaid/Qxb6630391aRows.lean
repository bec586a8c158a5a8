/-
  No cell of these rows narrows 'for every input' (looked for: loops, veiled, ifaces, maps, wideKeys, modest, calm, conditions, laid).
  DERIVED. THE GIVEN ROWS OF THIS SEAT. 2 by the template 'for every input the law returns true; each argument reads behind the call as it read before'; 0 by the template 'total and deterministic' (their statements: Qxb6630391aTotals.lean).
  GIVEN WITH THE SEED: the statements are not yours to turn. If you find one false, say at which input.
  Laid BY PROGRAM, IN A SANDBOX (cutbox-rows.mjs): the forced cells as the released guide's own fill.sh prints them over the translation b2d481796bbb3dcf… (all of the seat's roots in one cut). By AI agents, Wed Nov 11 2026. No macro, syntax, notation, axiom, sorry.
-/
import Derived.Test.Qxb6630391aChecked
import GoSem.Claim
import GoSem.ClaimJoined
import GoSem.ClaimMapViews
import Derived.JoinedTies
import Derived.KernelRfl
namespace Go.Proofs.Qxb6630391a
/- THE CELL 'sum', in the pinned program and in every row, IS THE sha256 OF THE DUMP (.gsa) THAT Qxb6630391aProg.lean LOADS. Nothing in Lean hashes anything: it is a label: what it is worth is what the hold of that sum in a sandbox is worth. -/
noncomputable def Try.pinned : Pinned := { name := "qxb6630391a", sum := "b2d481796bbb3dcf994fbce86b300cab7e831ffee8c2283fcc2fb9d81782f42d", checked := Try.checked }
namespace Rows
def none {H : Type} : Left H := { results := [], args := [] }

/-- 'zzlaws_internal_report_b1.FnOutcomeInsertAnyMessage': WHATEVER THE INPUT: true; the input reads as it did. -/
def fnOutcomeInsertAnyMessageSpec : ChangeSpec := { name := "fnOutcomeInsertAnyMessage", fn := fun _ => fun
  | [d1, d2, d3, d4, d5, d6, d7] => { results := [.lit (.bool true)], args := [d1, d2, d3, d4, d5, d6, d7] }
  | _ => none }
def fnOutcomeInsertAnyMessageRow : OpenClaim := { program := "qxb6630391a", sum := "b2d481796bbb3dcf994fbce86b300cab7e831ffee8c2283fcc2fb9d81782f42d", func := "example.com/mailward/mailward/zzlaws_internal_report_b1.FnOutcomeInsertAnyMessage", spec := "fnOutcomeInsertAnyMessage", apart := false }
def FnOutcomeInsertAnyMessageSaid : Prop := fnOutcomeInsertAnyMessageRow.holds Try.pinned (OpenSpec.ofChange fnOutcomeInsertAnyMessageSpec)

/-- ITS FALSE NEIGHBOUR: 'it returns false'. Refute it at one input. -/
def fnOutcomeInsertAnyMessageWrong : ChangeSpec := { name := "fnOutcomeInsertAnyMessage", fn := fun _ => fun
  | [d1, d2, d3, d4, d5, d6, d7] => { results := [.lit (.bool false)], args := [d1, d2, d3, d4, d5, d6, d7] }
  | _ => none }
def FnOutcomeInsertAnyMessageWrongFalsely : Prop := fnOutcomeInsertAnyMessageRow.holds Try.pinned (OpenSpec.ofChange fnOutcomeInsertAnyMessageWrong)

/-- 'zzlaws_internal_report_b1.FnOutcomeJoinIsWorstOfParts': WHATEVER THE INPUT: true; the input reads as it did. -/
def fnOutcomeJoinIsWorstOfPartsSpec : ChangeSpec := { name := "fnOutcomeJoinIsWorstOfParts", fn := fun _ => fun
  | [d1, d2, d3, d4] => { results := [.lit (.bool true)], args := [d1, d2, d3, d4] }
  | _ => none }
def fnOutcomeJoinIsWorstOfPartsRow : OpenClaim := { program := "qxb6630391a", sum := "b2d481796bbb3dcf994fbce86b300cab7e831ffee8c2283fcc2fb9d81782f42d", func := "example.com/mailward/mailward/zzlaws_internal_report_b1.FnOutcomeJoinIsWorstOfParts", spec := "fnOutcomeJoinIsWorstOfParts", apart := false }
def FnOutcomeJoinIsWorstOfPartsSaid : Prop := fnOutcomeJoinIsWorstOfPartsRow.holds Try.pinned (OpenSpec.ofChange fnOutcomeJoinIsWorstOfPartsSpec)

/-- ITS FALSE NEIGHBOUR: 'it returns false'. Refute it at one input. -/
def fnOutcomeJoinIsWorstOfPartsWrong : ChangeSpec := { name := "fnOutcomeJoinIsWorstOfParts", fn := fun _ => fun
  | [d1, d2, d3, d4] => { results := [.lit (.bool false)], args := [d1, d2, d3, d4] }
  | _ => none }
def FnOutcomeJoinIsWorstOfPartsWrongFalsely : Prop := fnOutcomeJoinIsWorstOfPartsRow.holds Try.pinned (OpenSpec.ofChange fnOutcomeJoinIsWorstOfPartsWrong)

end Rows
end Go.Proofs.Qxb6630391a
