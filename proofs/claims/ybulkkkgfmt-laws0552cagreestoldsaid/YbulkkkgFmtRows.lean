/-
  No cell of these rows narrows 'for every input' (looked for: loops, veiled, ifaces, maps, wideKeys, modest, calm, conditions, laid).
  DERIVED. THE GIVEN ROWS OF THIS SEAT. 1 by the template 'for every input the law returns true; each argument reads behind the call as it read before'; 0 by the template 'total and deterministic' (their statements: YbulkkkgFmtTotals.lean).
  GIVEN WITH THE SEED: the statements are not yours to turn. If you find one false, say at which input.
  Laid BY PROGRAM, IN A SANDBOX (cutbox-rows.mjs): the forced cells as the released guide's own fill.sh prints them over the translation c1e68f9f92f9ef90… (all of the seat's roots in one cut). By AI agents, Wed Nov 11 2026. No macro, syntax, notation, axiom, sorry.
-/
import Derived.Test.YbulkkkgFmtChecked
import GoSem.Claim
import GoSem.ClaimJoined
import GoSem.ClaimMapViews
import Derived.JoinedTies
import Derived.KernelRfl
namespace Go.Proofs.YbulkkkgFmt
/- THE CELL 'sum', in the pinned program and in every row, IS THE sha256 OF THE DUMP (.gsa) THAT YbulkkkgFmtProg.lean LOADS. Nothing in Lean hashes anything: it is a label: what it is worth is what the hold of that sum in a sandbox is worth. -/
noncomputable def Ybaf.pinned : Pinned := { name := "ybulkkkgfmt", sum := "c1e68f9f92f9ef90d131cf102549c85bb3930b761708ee162ed130b9896343b1", checked := Ybaf.checked }
namespace Rows
def none {H : Type} : Left H := { results := [], args := [] }

/-- 'driftlog.LawS0552CAgrees': WHATEVER THE INPUT: true; the input reads as it did. -/
def lawS0552CAgreesSpec : ChangeSpec := { name := "lawS0552CAgrees", fn := fun _ => fun
  | [d1, d2, d3, d4, d5] => { results := [.lit (.bool true)], args := [d1, d2, d3, d4, d5] }
  | _ => none }
def lawS0552CAgreesRow : OpenClaim := { program := "ybulkkkgfmt", sum := "c1e68f9f92f9ef90d131cf102549c85bb3930b761708ee162ed130b9896343b1", func := "example.com/driftlog/driftlog.LawS0552CAgrees", spec := "lawS0552CAgrees", stops := ["fmt.errorf, its operands' methods called", "fmt.Sprintf"], inPlace := ["fmt.errorf"], unfollowed := true, recurses := true, apart := false }
/-- NO THEOREM (fmt's text is open here; it may be false): for the released tool's asking of the row's closed facts alone. THE STATEMENT IS 'LawS0552CAgreesToldSaid' (YbulkkkgFmtCards.lean). -/
def LawS0552CAgreesFormAsk : Prop := lawS0552CAgreesRow.holds Ybaf.pinned (OpenSpec.ofChange lawS0552CAgreesSpec)

/-- ITS FALSE NEIGHBOUR: 'it returns false'. Refute it at one input. -/
def lawS0552CAgreesWrong : ChangeSpec := { name := "lawS0552CAgrees", fn := fun _ => fun
  | [d1, d2, d3, d4, d5] => { results := [.lit (.bool false)], args := [d1, d2, d3, d4, d5] }
  | _ => none }
def LawS0552CAgreesWrongFormAsk : Prop := lawS0552CAgreesRow.holds Ybaf.pinned (OpenSpec.ofChange lawS0552CAgreesWrong)

end Rows
end Go.Proofs.YbulkkkgFmt
