/-
  No cell of these rows narrows 'for every input' (looked for: loops, veiled, ifaces, maps, wideKeys, modest, calm, conditions, laid).
  DERIVED. THE GIVEN ROWS OF THIS SEAT. 2 by the template 'for every input the law returns true; each argument reads behind the call as it read before'; 0 by the template 'total and deterministic' (their statements: YbulkkkgTotals.lean).
  GIVEN WITH THE SEED: the statements are not yours to turn. If you find one false, say at which input.
  Laid BY PROGRAM, IN A SANDBOX (cutbox-rows.mjs): the forced cells as the released guide's own fill.sh prints them over the translation 3cd25d12d1abdccb… (all of the seat's roots in one cut). By AI agents, Wed Nov 11 2026. No macro, syntax, notation, axiom, sorry.
-/
import Derived.Test.YbulkkkgChecked
import GoSem.Claim
import GoSem.ClaimJoined
import GoSem.ClaimMapViews
import Derived.JoinedTies
import Derived.KernelRfl
namespace Go.Proofs.Ybulkkkg
/- THE CELL 'sum', in the pinned program and in every row, IS THE sha256 OF THE DUMP (.gsa) THAT YbulkkkgProg.lean LOADS. Nothing in Lean hashes anything: it is a label: what it is worth is what the hold of that sum in a sandbox is worth. -/
noncomputable def Yba.pinned : Pinned := { name := "ybulkkkg", sum := "3cd25d12d1abdccb751a016028c227db0417f7ab9c4bd8fcadc10fc896a9e868", checked := Yba.checked }
namespace Rows
def none {H : Type} : Left H := { results := [], args := [] }

/-- 'driftlog.LawS0552APieces': WHATEVER THE INPUT: true; the input reads as it did. -/
def lawS0552APiecesSpec : ChangeSpec := { name := "lawS0552APieces", fn := fun _ => fun
  | [d] => { results := [.lit (.bool true)], args := [d] }
  | _ => none }
def lawS0552APiecesRow : OpenClaim := { program := "ybulkkkg", sum := "3cd25d12d1abdccb751a016028c227db0417f7ab9c4bd8fcadc10fc896a9e868", func := "example.com/driftlog/driftlog.LawS0552APieces", spec := "lawS0552APieces", apart := false }
def LawS0552APiecesSaid : Prop := lawS0552APiecesRow.holds Yba.pinned (OpenSpec.ofChange lawS0552APiecesSpec)

/-- ITS FALSE NEIGHBOUR: 'it returns false'. Refute it at one input. -/
def lawS0552APiecesWrong : ChangeSpec := { name := "lawS0552APieces", fn := fun _ => fun
  | [d] => { results := [.lit (.bool false)], args := [d] }
  | _ => none }
def LawS0552APiecesWrongFalsely : Prop := lawS0552APiecesRow.holds Yba.pinned (OpenSpec.ofChange lawS0552APiecesWrong)

/-- 'driftlog.LawS0552ATile': WHATEVER THE INPUT: true; the input reads as it did. -/
def lawS0552ATileSpec : ChangeSpec := { name := "lawS0552ATile", fn := fun _ => fun
  | [d1, d2] => { results := [.lit (.bool true)], args := [d1, d2] }
  | _ => none }
def lawS0552ATileRow : OpenClaim := { program := "ybulkkkg", sum := "3cd25d12d1abdccb751a016028c227db0417f7ab9c4bd8fcadc10fc896a9e868", func := "example.com/driftlog/driftlog.LawS0552ATile", spec := "lawS0552ATile", apart := false }
def LawS0552ATileSaid : Prop := lawS0552ATileRow.holds Yba.pinned (OpenSpec.ofChange lawS0552ATileSpec)

/-- ITS FALSE NEIGHBOUR: 'it returns false'. Refute it at one input. -/
def lawS0552ATileWrong : ChangeSpec := { name := "lawS0552ATile", fn := fun _ => fun
  | [d1, d2] => { results := [.lit (.bool false)], args := [d1, d2] }
  | _ => none }
def LawS0552ATileWrongFalsely : Prop := lawS0552ATileRow.holds Yba.pinned (OpenSpec.ofChange lawS0552ATileWrong)

end Rows
end Go.Proofs.Ybulkkkg
