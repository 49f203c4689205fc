/-
  No cell of these rows narrows 'for every input' (looked for: loops, veiled, ifaces, maps, wideKeys, modest, calm, conditions, laid).
  DERIVED. THE GIVEN ROWS OF THIS SEAT. 1 by the template 'for every input the law returns true; each argument reads behind the call as it read before'; 0 by the template 'total and deterministic' (their statements: YbulkkiqFmtTotals.lean).
  GIVEN WITH THE SEED: the statements are not yours to turn. If you find one false, say at which input.
  Laid BY PROGRAM, IN A SANDBOX (cutbox-rows.mjs): the forced cells as the released guide's own fill.sh prints them over the translation a581965b81f330d3… (all of the seat's roots in one cut). By AI agents, Wed Nov 11 2026. No macro, syntax, notation, axiom, sorry.
-/
import Derived.Test.YbulkkiqFmtChecked
import GoSem.Claim
import GoSem.ClaimJoined
import GoSem.ClaimMapViews
import Derived.JoinedTies
import Derived.KernelRfl
namespace Go.Proofs.YbulkkiqFmt
/- THE CELL 'sum', in the pinned program and in every row, IS THE sha256 OF THE DUMP (.gsa) THAT YbulkkiqFmtProg.lean LOADS. Nothing in Lean hashes anything: it is a label: what it is worth is what the hold of that sum in a sandbox is worth. -/
noncomputable def Ybaf.pinned : Pinned := { name := "ybulkkiqfmt", sum := "a581965b81f330d3e1b1618bcee349cb799037086a68ffad5495a6399f978565", checked := Ybaf.checked }
namespace Rows
def none {H : Type} : Left H := { results := [], args := [] }

/-- 'ringfinger.LawS0549BFresh': WHATEVER THE INPUT: true; the input reads as it did. -/
def lawS0549BFreshSpec : ChangeSpec := { name := "lawS0549BFresh", fn := fun _ => fun
  | [d1, d2] => { results := [.lit (.bool true)], args := [d1, d2] }
  | _ => none }
def lawS0549BFreshRow : OpenClaim := { program := "ybulkkiqfmt", sum := "a581965b81f330d3e1b1618bcee349cb799037086a68ffad5495a6399f978565", func := "example.com/ringfinger/ringfinger.LawS0549BFresh", spec := "lawS0549BFresh", stops := ["fmt.Sprintf"], inPlace := ["fmt.Sprintf", "internal/bytealg.Compare", "(*internal/sync.Mutex).Lock", "internal/race.Disable", "sync/atomic.CompareAndSwapInt32", "internal/race.Enable", "internal/race.Acquire", "(*internal/sync.Mutex).lockSlow", "internal/sync.runtime_canSpin", "internal/sync.runtime_doSpin", "internal/sync.throw", "internal/sync.runtime_nanotime", "internal/sync.runtime_SemacquireMutex", "sync/atomic.AddInt32", "(*internal/sync.Mutex).Unlock", "internal/race.ReleaseMerge", "(*internal/sync.Mutex).unlockSlow", "internal/sync.fatal", "internal/sync.runtime_Semrelease"], unfollowed := true, recurses := true, apart := false }
/-- NO THEOREM (fmt's text is open here; it may be false): for the released tool's asking of the row's closed facts alone. THE STATEMENT IS 'LawS0549BFreshToldSaid' (YbulkkiqFmtCards.lean). -/
def LawS0549BFreshFormAsk : Prop := lawS0549BFreshRow.holds Ybaf.pinned (OpenSpec.ofChange lawS0549BFreshSpec)

/-- ITS FALSE NEIGHBOUR: 'it returns false'. Refute it at one input. -/
def lawS0549BFreshWrong : ChangeSpec := { name := "lawS0549BFresh", fn := fun _ => fun
  | [d1, d2] => { results := [.lit (.bool false)], args := [d1, d2] }
  | _ => none }
def LawS0549BFreshWrongFormAsk : Prop := lawS0549BFreshRow.holds Ybaf.pinned (OpenSpec.ofChange lawS0549BFreshWrong)

end Rows
end Go.Proofs.YbulkkiqFmt
