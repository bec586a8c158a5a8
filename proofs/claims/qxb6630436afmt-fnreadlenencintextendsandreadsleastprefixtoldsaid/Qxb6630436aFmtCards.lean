/-
  DERIVED. GIVEN WITH THE SEED: THE CARDS: each row of Qxb6630436aFmtRows.lean that lists a variable, with what it lists TIED to the program's text (the seventh form; the later family's looks); each row that meets fmt, with fmt's text TOLD by the authors' own Lean function (tested against real Go, not proved from fmt's source: count such statements apart). THE CARD IS WHAT COUNTS. Prove the row's statement (the work); the ties are given (Qxb6630436aFmtTie.lean); close each card by the builder's one call (the guide's Derived/Test/ToyasCard.lean, 'card_holds'). Laid BY PROGRAM, IN A SANDBOX (cutbox-door.mjs). By AI agents, Wed Nov 11 2026. No macro, syntax, notation, axiom, sorry.
-/
import Derived.Test.Qxb6630436aFmtRows
import GoSem.ClaimSeven
namespace Go.Proofs.Qxb6630436aFmt
namespace Rows

/-- THE TOLD AND TIED CARD OF 'zzlaws_root_b1.FnReadLenencIntExtendsAndReadsLeastPrefix'. -/
def fnReadLenencIntExtendsAndReadsLeastPrefixCard : Claim7 := { stood := { row := fnReadLenencIntExtendsAndReadsLeastPrefixRow, standIns := [], harness := (true, "1d5c086af80fbec38b3c00fc3ebec903a113fc6cea0145c25c5d97e1b2dbc166"), looks := false }, told := true, laidByText := true, laidKinds := [.data, .data, .data, .sentinel], laidTests := true, laidLooks := .later, goes := false }
def FnReadLenencIntExtendsAndReadsLeastPrefixToldSaid : Prop := Claim7.holds Tryf.pinned (.plain (OpenSpec.ofChange fnReadLenencIntExtendsAndReadsLeastPrefixSpec)) fnReadLenencIntExtendsAndReadsLeastPrefixCard
/-- ITS FALSE NEIGHBOUR. Refute it at one input. -/
def FnReadLenencIntExtendsAndReadsLeastPrefixToldWrongFalsely : Prop := Claim7.holds Tryf.pinned (.plain (OpenSpec.ofChange fnReadLenencIntExtendsAndReadsLeastPrefixWrong)) fnReadLenencIntExtendsAndReadsLeastPrefixCard

/-- THE TOLD AND TIED CARD OF 'zzlaws_root_b1.FnReadLenencIntAgreesWithReadUint'. -/
def fnReadLenencIntAgreesWithReadUintCard : Claim7 := { stood := { row := fnReadLenencIntAgreesWithReadUintRow, standIns := [], harness := (true, "1d5c086af80fbec38b3c00fc3ebec903a113fc6cea0145c25c5d97e1b2dbc166"), looks := false }, told := true, laidByText := true, laidKinds := [.data, .data, .data, .sentinel], laidTests := true, laidLooks := .later, goes := false }
def FnReadLenencIntAgreesWithReadUintToldSaid : Prop := Claim7.holds Tryf.pinned (.plain (OpenSpec.ofChange fnReadLenencIntAgreesWithReadUintSpec)) fnReadLenencIntAgreesWithReadUintCard
/-- ITS FALSE NEIGHBOUR. Refute it at one input. -/
def FnReadLenencIntAgreesWithReadUintToldWrongFalsely : Prop := Claim7.holds Tryf.pinned (.plain (OpenSpec.ofChange fnReadLenencIntAgreesWithReadUintWrong)) fnReadLenencIntAgreesWithReadUintCard
end Rows
end Go.Proofs.Qxb6630436aFmt
