/-
  No cell of these rows narrows 'for every input' (looked for: loops, veiled, ifaces, maps, wideKeys, modest, calm, conditions, laid).
  DERIVED. THE GIVEN ROWS OF THIS SEAT. 3 by the template 'for every input the law returns true; each argument reads behind the call as it read before'; 0 by the template 'total and deterministic' (their statements: YbulkkxeTotals.lean).
  GIVEN WITH THE SEED: the statements are not yours to turn. If you find one false, say at which input.
  Laid BY PROGRAM, IN A SANDBOX (cutbox-rows.mjs): the forced cells as the released guide's own fill.sh prints them over the translation 6e02885ceb34ead2… (all of the seat's roots in one cut). By AI agents, Wed Nov 11 2026. No macro, syntax, notation, axiom, sorry.
-/
import Derived.Test.YbulkkxeChecked
import GoSem.Claim
import GoSem.ClaimJoined
import GoSem.ClaimMapViews
import Derived.JoinedTies
import Derived.KernelRfl
namespace Go.Proofs.Ybulkkxe
/- THE CELL 'sum', in the pinned program and in every row, IS THE sha256 OF THE DUMP (.gsa) THAT YbulkkxeProg.lean LOADS. Nothing in Lean hashes anything: it is a label: what it is worth is what the hold of that sum in a sandbox is worth. -/
noncomputable def Yba.pinned : Pinned := { name := "ybulkkxe", sum := "6e02885ceb34ead229f0a3c8649747acc5b4d7592ca388584ae7ef4009252411", checked := Yba.checked }
namespace Rows
def none {H : Type} : Left H := { results := [], args := [] }

/-- 'pcap.LawS0576AExact': WHATEVER THE INPUT: true; the input reads as it did. -/
def lawS0576AExactSpec : ChangeSpec := { name := "lawS0576AExact", fn := fun _ => fun
  | [d1, d2] => { results := [.lit (.bool true)], args := [d1, d2] }
  | _ => none }
def lawS0576AExactRow : OpenClaim := { program := "ybulkkxe", sum := "6e02885ceb34ead229f0a3c8649747acc5b4d7592ca388584ae7ef4009252411", func := "example.com/hearthwire/hearthwire/internal/pcap.LawS0576AExact", spec := "lawS0576AExact", named := ["encoding/binary.BigEndian"], apart := false }
def LawS0576AExactSaid : Prop := lawS0576AExactRow.holds Yba.pinned (OpenSpec.ofChange lawS0576AExactSpec)

/-- ITS FALSE NEIGHBOUR: 'it returns false'. Refute it at one input. -/
def lawS0576AExactWrong : ChangeSpec := { name := "lawS0576AExact", fn := fun _ => fun
  | [d1, d2] => { results := [.lit (.bool false)], args := [d1, d2] }
  | _ => none }
def LawS0576AExactWrongFalsely : Prop := lawS0576AExactRow.holds Yba.pinned (OpenSpec.ofChange lawS0576AExactWrong)

/-- 'pcap.LawS0576AConcat': WHATEVER THE INPUT: true; the input reads as it did. -/
def lawS0576AConcatSpec : ChangeSpec := { name := "lawS0576AConcat", fn := fun _ => fun
  | [d1, d2, d3] => { results := [.lit (.bool true)], args := [d1, d2, d3] }
  | _ => none }
def lawS0576AConcatRow : OpenClaim := { program := "ybulkkxe", sum := "6e02885ceb34ead229f0a3c8649747acc5b4d7592ca388584ae7ef4009252411", func := "example.com/hearthwire/hearthwire/internal/pcap.LawS0576AConcat", spec := "lawS0576AConcat", named := ["encoding/binary.BigEndian"], apart := false }
def LawS0576AConcatSaid : Prop := lawS0576AConcatRow.holds Yba.pinned (OpenSpec.ofChange lawS0576AConcatSpec)

/-- ITS FALSE NEIGHBOUR: 'it returns false'. Refute it at one input. -/
def lawS0576AConcatWrong : ChangeSpec := { name := "lawS0576AConcat", fn := fun _ => fun
  | [d1, d2, d3] => { results := [.lit (.bool false)], args := [d1, d2, d3] }
  | _ => none }
def LawS0576AConcatWrongFalsely : Prop := lawS0576AConcatRow.holds Yba.pinned (OpenSpec.ofChange lawS0576AConcatWrong)

/-- 'pcap.LawS0576APad': WHATEVER THE INPUT: true; the input reads as it did. -/
def lawS0576APadSpec : ChangeSpec := { name := "lawS0576APad", fn := fun _ => fun
  | [d1, d2] => { results := [.lit (.bool true)], args := [d1, d2] }
  | _ => none }
def lawS0576APadRow : OpenClaim := { program := "ybulkkxe", sum := "6e02885ceb34ead229f0a3c8649747acc5b4d7592ca388584ae7ef4009252411", func := "example.com/hearthwire/hearthwire/internal/pcap.LawS0576APad", spec := "lawS0576APad", named := ["encoding/binary.BigEndian"], apart := false }
def LawS0576APadSaid : Prop := lawS0576APadRow.holds Yba.pinned (OpenSpec.ofChange lawS0576APadSpec)

/-- ITS FALSE NEIGHBOUR: 'it returns false'. Refute it at one input. -/
def lawS0576APadWrong : ChangeSpec := { name := "lawS0576APad", fn := fun _ => fun
  | [d1, d2] => { results := [.lit (.bool false)], args := [d1, d2] }
  | _ => none }
def LawS0576APadWrongFalsely : Prop := lawS0576APadRow.holds Yba.pinned (OpenSpec.ofChange lawS0576APadWrong)

end Rows
end Go.Proofs.Ybulkkxe
