/-
  No cell of these rows narrows 'for every input' (looked for: loops, veiled, ifaces, maps, wideKeys, modest, calm, conditions, laid).
  DERIVED. THE GIVEN ROWS OF THIS SEAT. 3 by the template 'for every input the law returns true; each argument reads behind the call as it read before'; 0 by the template 'total and deterministic' (their statements: YbulkkiqTotals.lean).
  GIVEN WITH THE SEED: the statements are not yours to turn. If you find one false, say at which input.
  Laid BY PROGRAM, IN A SANDBOX (cutbox-rows.mjs): the forced cells as the released guide's own fill.sh prints them over the translation 1dc6d29d7f70f77c… (all of the seat's roots in one cut). By AI agents, Wed Nov 11 2026. No macro, syntax, notation, axiom, sorry.
-/
import Derived.Test.YbulkkiqChecked
import GoSem.Claim
import GoSem.ClaimJoined
import GoSem.ClaimMapViews
import Derived.JoinedTies
import Derived.KernelRfl
namespace Go.Proofs.Ybulkkiq
/- THE CELL 'sum', in the pinned program and in every row, IS THE sha256 OF THE DUMP (.gsa) THAT YbulkkiqProg.lean LOADS. Nothing in Lean hashes anything: it is a label: what it is worth is what the hold of that sum in a sandbox is worth. -/
noncomputable def Yba.pinned : Pinned := { name := "ybulkkiq", sum := "1dc6d29d7f70f77cad2d0cd5c1f75967ccefcb7d192a43aedd3c3765ef1c559d", checked := Yba.checked }
namespace Rows
def none {H : Type} : Left H := { results := [], args := [] }

/-- 'ringfinger.LawS0549APlace': WHATEVER THE INPUT: true; the input reads as it did. -/
def lawS0549APlaceSpec : ChangeSpec := { name := "lawS0549APlace", fn := fun _ => fun
  | [d1, d2, d3, d4] => { results := [.lit (.bool true)], args := [d1, d2, d3, d4] }
  | _ => none }
def lawS0549APlaceRow : OpenClaim := { program := "ybulkkiq", sum := "1dc6d29d7f70f77cad2d0cd5c1f75967ccefcb7d192a43aedd3c3765ef1c559d", func := "example.com/ringfinger/ringfinger.LawS0549APlace", spec := "lawS0549APlace", inPlace := ["(*internal/sync.Mutex).Lock", "internal/race.Disable", "sync/atomic.CompareAndSwapInt32", "internal/race.Enable", "internal/race.Acquire", "(*internal/sync.Mutex).lockSlow", "internal/sync.runtime_canSpin", "internal/sync.runtime_doSpin", "internal/sync.throw", "internal/sync.runtime_nanotime", "internal/sync.runtime_SemacquireMutex", "sync/atomic.AddInt32", "(*internal/sync.Mutex).Unlock", "internal/race.ReleaseMerge", "(*internal/sync.Mutex).unlockSlow", "internal/sync.fatal", "internal/sync.runtime_Semrelease", "(*internal/sync.Mutex).TryLock"], apart := false }
def LawS0549APlaceSaid : Prop := lawS0549APlaceRow.holds Yba.pinned (OpenSpec.ofChange lawS0549APlaceSpec)

/-- ITS FALSE NEIGHBOUR: 'it returns false'. Refute it at one input. -/
def lawS0549APlaceWrong : ChangeSpec := { name := "lawS0549APlace", fn := fun _ => fun
  | [d1, d2, d3, d4] => { results := [.lit (.bool false)], args := [d1, d2, d3, d4] }
  | _ => none }
def LawS0549APlaceWrongFalsely : Prop := lawS0549APlaceRow.holds Yba.pinned (OpenSpec.ofChange lawS0549APlaceWrong)

/-- 'ringfinger.LawS0549BSum': WHATEVER THE INPUT: true; the input reads as it did. -/
def lawS0549BSumSpec : ChangeSpec := { name := "lawS0549BSum", fn := fun _ => fun
  | [d] => { results := [.lit (.bool true)], args := [d] }
  | _ => none }
def lawS0549BSumRow : OpenClaim := { program := "ybulkkiq", sum := "1dc6d29d7f70f77cad2d0cd5c1f75967ccefcb7d192a43aedd3c3765ef1c559d", func := "example.com/ringfinger/ringfinger.LawS0549BSum", spec := "lawS0549BSum", inPlace := ["(*internal/sync.Mutex).Lock", "internal/race.Disable", "sync/atomic.CompareAndSwapInt32", "internal/race.Enable", "internal/race.Acquire", "(*internal/sync.Mutex).lockSlow", "internal/sync.runtime_canSpin", "internal/sync.runtime_doSpin", "internal/sync.throw", "internal/sync.runtime_nanotime", "internal/sync.runtime_SemacquireMutex", "sync/atomic.AddInt32", "(*internal/sync.Mutex).Unlock", "internal/race.ReleaseMerge", "(*internal/sync.Mutex).unlockSlow", "internal/sync.fatal", "internal/sync.runtime_Semrelease"], apart := false }
def LawS0549BSumSaid : Prop := lawS0549BSumRow.holds Yba.pinned (OpenSpec.ofChange lawS0549BSumSpec)

/-- ITS FALSE NEIGHBOUR: 'it returns false'. Refute it at one input. -/
def lawS0549BSumWrong : ChangeSpec := { name := "lawS0549BSum", fn := fun _ => fun
  | [d] => { results := [.lit (.bool false)], args := [d] }
  | _ => none }
def LawS0549BSumWrongFalsely : Prop := lawS0549BSumRow.holds Yba.pinned (OpenSpec.ofChange lawS0549BSumWrong)

/-- 'ringfinger.LawS0549CPlaces': WHATEVER THE INPUT: true; the input reads as it did. -/
def lawS0549CPlacesSpec : ChangeSpec := { name := "lawS0549CPlaces", fn := fun _ => fun
  | [d1, d2, d3, d4, d5, d6] => { results := [.lit (.bool true)], args := [d1, d2, d3, d4, d5, d6] }
  | _ => none }
def lawS0549CPlacesRow : OpenClaim := { program := "ybulkkiq", sum := "1dc6d29d7f70f77cad2d0cd5c1f75967ccefcb7d192a43aedd3c3765ef1c559d", func := "example.com/ringfinger/ringfinger.LawS0549CPlaces", spec := "lawS0549CPlaces", apart := false }
def LawS0549CPlacesSaid : Prop := lawS0549CPlacesRow.holds Yba.pinned (OpenSpec.ofChange lawS0549CPlacesSpec)

/-- ITS FALSE NEIGHBOUR: 'it returns false'. Refute it at one input. -/
def lawS0549CPlacesWrong : ChangeSpec := { name := "lawS0549CPlaces", fn := fun _ => fun
  | [d1, d2, d3, d4, d5, d6] => { results := [.lit (.bool false)], args := [d1, d2, d3, d4, d5, d6] }
  | _ => none }
def LawS0549CPlacesWrongFalsely : Prop := lawS0549CPlacesRow.holds Yba.pinned (OpenSpec.ofChange lawS0549CPlacesWrong)

end Rows
end Go.Proofs.Ybulkkiq
