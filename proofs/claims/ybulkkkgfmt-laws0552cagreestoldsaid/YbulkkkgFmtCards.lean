/-
  DERIVED. GIVEN WITH THE SEED: THE CARDS: each row of YbulkkkgFmtRows.lean that lists a variable, with what it lists TIED to the program's text (the seventh form; the later family's looks); each row that meets fmt, with fmt's text TOLD by the authors' own Lean function (tested against real Go, not proved from fmt's source: count such statements apart). THE CARD IS WHAT COUNTS. Prove the row's statement (the work); the ties are given (YbulkkkgFmtTie.lean); close each card by the builder's one call (the guide's Derived/Test/ToyasCard.lean, 'card_holds'). Laid BY PROGRAM, IN A SANDBOX (cutbox-door.mjs). By AI agents, Wed Nov 11 2026. No macro, syntax, notation, axiom, sorry.
-/
import Derived.Test.YbulkkkgFmtRows
import GoSem.ClaimSeven
namespace Go.Proofs.YbulkkkgFmt
namespace Rows

/-- THE TOLD CARD OF 'driftlog.LawS0552CAgrees'. -/
def lawS0552CAgreesCard : Claim7 := { stood := { row := lawS0552CAgreesRow, standIns := [], harness := (true, "2695b856353fa933bcc9e23a57469e5be851947486e3f8619d76ee8a19344c41"), looks := false }, told := true, goes := false }
def LawS0552CAgreesToldSaid : Prop := Claim7.holds Ybaf.pinned (.plain (OpenSpec.ofChange lawS0552CAgreesSpec)) lawS0552CAgreesCard
/-- ITS FALSE NEIGHBOUR. Refute it at one input. -/
def LawS0552CAgreesToldWrongFalsely : Prop := Claim7.holds Ybaf.pinned (.plain (OpenSpec.ofChange lawS0552CAgreesWrong)) lawS0552CAgreesCard
end Rows
end Go.Proofs.YbulkkkgFmt
