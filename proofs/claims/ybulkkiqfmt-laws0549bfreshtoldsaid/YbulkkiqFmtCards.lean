/-
  DERIVED. GIVEN WITH THE SEED: THE CARDS: each row of YbulkkiqFmtRows.lean that lists a variable, with what it lists TIED to the program's text (the seventh form; the later family's looks); each row that meets fmt, with fmt's text TOLD by the authors' own Lean function (tested against real Go, not proved from fmt's source: count such statements apart). THE CARD IS WHAT COUNTS. Prove the row's statement (the work); the ties are given (YbulkkiqFmtTie.lean); close each card by the builder's one call (the guide's Derived/Test/ToyasCard.lean, 'card_holds'). Laid BY PROGRAM, IN A SANDBOX (cutbox-door.mjs). By AI agents, Wed Nov 11 2026. No macro, syntax, notation, axiom, sorry.
-/
import Derived.Test.YbulkkiqFmtRows
import GoSem.ClaimSeven
namespace Go.Proofs.YbulkkiqFmt
namespace Rows

/-- THE TOLD CARD OF 'ringfinger.LawS0549BFresh'. -/
def lawS0549BFreshCard : Claim7 := { stood := { row := lawS0549BFreshRow, standIns := [], harness := (true, "5c94a4fbae6075b11b2fa128477b1dceb4f31fc8b30a24d358ab67e7f9093d44"), looks := false }, told := true, goes := false }
def LawS0549BFreshToldSaid : Prop := Claim7.holds Ybaf.pinned (.plain (OpenSpec.ofChange lawS0549BFreshSpec)) lawS0549BFreshCard
/-- ITS FALSE NEIGHBOUR. Refute it at one input. -/
def LawS0549BFreshToldWrongFalsely : Prop := Claim7.holds Ybaf.pinned (.plain (OpenSpec.ofChange lawS0549BFreshWrong)) lawS0549BFreshCard
end Rows
end Go.Proofs.YbulkkiqFmt
