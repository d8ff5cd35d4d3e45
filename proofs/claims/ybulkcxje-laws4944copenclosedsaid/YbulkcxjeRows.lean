/-
  No cell of these rows narrows 'for every input' (looked for: loops, veiled, ifaces, maps, wideKeys, modest, calm, conditions, laid).
  DERIVED. THE GIVEN ROWS OF THIS SEAT. 2 by the template 'for every input the law returns true; each argument reads behind the call as it read before'; 0 by the template 'total and deterministic' (their statements: YbulkcxjeTotals.lean).
  GIVEN WITH THE SEED: the statements are not yours to turn. If you find one false, say at which input.
  Laid BY PROGRAM, IN A SANDBOX (cutbox-rows.mjs): the forced cells as the released guide's own fill.sh prints them over the translation bead4cf9e4ad4209… (all of the seat's roots in one cut). By AI agents, Wed Nov 11 2026. No macro, syntax, notation, axiom, sorry.
-/
import Derived.Test.YbulkcxjeChecked
import GoSem.Claim
import GoSem.ClaimJoined
import GoSem.ClaimMapViews
import Derived.JoinedTies
import Derived.KernelRfl
namespace Go.Proofs.Ybulkcxje
/- THE CELL 'sum', in the pinned program and in every row, IS THE sha256 OF THE DUMP (.gsa) THAT YbulkcxjeProg.lean LOADS. Nothing in Lean hashes anything: it is a label: what it is worth is what the hold of that sum in a sandbox is worth. -/
noncomputable def Yba.pinned : Pinned := { name := "ybulkcxje", sum := "bead4cf9e4ad4209c9074d355efe9b5ecb65c60470dc747ee09f17f5e395b3b8", checked := Yba.checked }
namespace Rows
def none {H : Type} : Left H := { results := [], args := [] }

/-- 'transport.LawS4944COpenHands': WHATEVER THE INPUT: true; the input reads as it did. -/
def lawS4944COpenHandsSpec : ChangeSpec := { name := "lawS4944COpenHands", fn := fun _ => fun
  | [d1, d2, d3, d4] => { results := [.lit (.bool true)], args := [d1, d2, d3, d4] }
  | _ => none }
def lawS4944COpenHandsRow : OpenClaim := { program := "ybulkcxje", sum := "bead4cf9e4ad4209c9074d355efe9b5ecb65c60470dc747ee09f17f5e395b3b8", func := "example.com/longitude/longitude/internal/transport.LawS4944COpenHands", spec := "lawS4944COpenHands", inPlace := ["(*internal/sync.Mutex).Lock", "internal/race.Disable", "sync/atomic.CompareAndSwapInt32", "internal/race.Enable", "internal/race.Acquire", "(*internal/sync.Mutex).lockSlow", "internal/sync.runtime_canSpin", "internal/sync.runtime_doSpin", "internal/sync.throw", "internal/sync.runtime_nanotime", "internal/sync.runtime_SemacquireMutex", "sync/atomic.AddInt32", "(*internal/sync.Mutex).Unlock", "internal/race.ReleaseMerge", "(*internal/sync.Mutex).unlockSlow", "internal/sync.fatal", "internal/sync.runtime_Semrelease", "(*internal/sync.Mutex).TryLock"], unfollowed := true, recurses := true, apart := false }
def LawS4944COpenHandsSaid : Prop := lawS4944COpenHandsRow.holds Yba.pinned (OpenSpec.ofChange lawS4944COpenHandsSpec)

/-- ITS FALSE NEIGHBOUR: 'it returns false'. Refute it at one input. -/
def lawS4944COpenHandsWrong : ChangeSpec := { name := "lawS4944COpenHands", fn := fun _ => fun
  | [d1, d2, d3, d4] => { results := [.lit (.bool false)], args := [d1, d2, d3, d4] }
  | _ => none }
def LawS4944COpenHandsWrongFalsely : Prop := lawS4944COpenHandsRow.holds Yba.pinned (OpenSpec.ofChange lawS4944COpenHandsWrong)

/-- 'transport.LawS4944COpenClosed': WHATEVER THE INPUT: true; the input reads as it did. -/
def lawS4944COpenClosedSpec : ChangeSpec := { name := "lawS4944COpenClosed", fn := fun _ => fun
  | [d1, d2, d3, d4] => { results := [.lit (.bool true)], args := [d1, d2, d3, d4] }
  | _ => none }
def lawS4944COpenClosedRow : OpenClaim := { program := "ybulkcxje", sum := "bead4cf9e4ad4209c9074d355efe9b5ecb65c60470dc747ee09f17f5e395b3b8", func := "example.com/longitude/longitude/internal/transport.LawS4944COpenClosed", spec := "lawS4944COpenClosed", inPlace := ["(*internal/sync.Mutex).Lock", "internal/race.Disable", "sync/atomic.CompareAndSwapInt32", "internal/race.Enable", "internal/race.Acquire", "(*internal/sync.Mutex).lockSlow", "internal/sync.runtime_canSpin", "internal/sync.runtime_doSpin", "internal/sync.throw", "internal/sync.runtime_nanotime", "internal/sync.runtime_SemacquireMutex", "sync/atomic.AddInt32", "(*internal/sync.Mutex).Unlock", "internal/race.ReleaseMerge", "(*internal/sync.Mutex).unlockSlow", "internal/sync.fatal", "internal/sync.runtime_Semrelease", "(*internal/sync.Mutex).TryLock"], unfollowed := true, recurses := true, apart := false }
def LawS4944COpenClosedSaid : Prop := lawS4944COpenClosedRow.holds Yba.pinned (OpenSpec.ofChange lawS4944COpenClosedSpec)

/-- ITS FALSE NEIGHBOUR: 'it returns false'. Refute it at one input. -/
def lawS4944COpenClosedWrong : ChangeSpec := { name := "lawS4944COpenClosed", fn := fun _ => fun
  | [d1, d2, d3, d4] => { results := [.lit (.bool false)], args := [d1, d2, d3, d4] }
  | _ => none }
def LawS4944COpenClosedWrongFalsely : Prop := lawS4944COpenClosedRow.holds Yba.pinned (OpenSpec.ofChange lawS4944COpenClosedWrong)

end Rows
end Go.Proofs.Ybulkcxje
