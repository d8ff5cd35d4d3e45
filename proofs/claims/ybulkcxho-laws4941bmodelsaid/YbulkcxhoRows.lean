/-
  No cell of these rows narrows 'for every input' (looked for: loops, veiled, ifaces, maps, wideKeys, modest, calm, conditions, laid).
  DERIVED. THE GIVEN ROWS OF THIS SEAT. 2 by the template 'for every input the law returns true; each argument reads behind the call as it read before'; 0 by the template 'total and deterministic' (their statements: YbulkcxhoTotals.lean).
  GIVEN WITH THE SEED: the statements are not yours to turn. If you find one false, say at which input.
  Laid BY PROGRAM, IN A SANDBOX (cutbox-rows.mjs): the forced cells as the released guide's own fill.sh prints them over the translation 9fbd2881176ae96e… (all of the seat's roots in one cut). By AI agents, Wed Nov 11 2026. No macro, syntax, notation, axiom, sorry.
-/
import Derived.Test.YbulkcxhoChecked
import GoSem.Claim
import GoSem.ClaimJoined
import GoSem.ClaimMapViews
import Derived.JoinedTies
import Derived.KernelRfl
namespace Go.Proofs.Ybulkcxho
/- THE CELL 'sum', in the pinned program and in every row, IS THE sha256 OF THE DUMP (.gsa) THAT YbulkcxhoProg.lean LOADS. Nothing in Lean hashes anything: it is a label: what it is worth is what the hold of that sum in a sandbox is worth. -/
noncomputable def Yba.pinned : Pinned := { name := "ybulkcxho", sum := "9fbd2881176ae96eaa04ad352406a104cf26a7176000bc097ca34ab880fd232a", checked := Yba.checked }
namespace Rows
def none {H : Type} : Left H := { results := [], args := [] }

/-- 'replica.LawS4941BModel': WHATEVER THE INPUT: true; the input reads as it did. -/
def lawS4941BModelSpec : ChangeSpec := { name := "lawS4941BModel", fn := fun _ => fun
  | [d1, d2, d3, d4] => { results := [.lit (.bool true)], args := [d1, d2, d3, d4] }
  | _ => none }
def lawS4941BModelRow : OpenClaim := { program := "ybulkcxho", sum := "9fbd2881176ae96eaa04ad352406a104cf26a7176000bc097ca34ab880fd232a", func := "example.com/quorate/quorate/replica.LawS4941BModel", spec := "lawS4941BModel", recurses := true, apart := false }
def LawS4941BModelSaid : Prop := lawS4941BModelRow.holds Yba.pinned (OpenSpec.ofChange lawS4941BModelSpec)

/-- ITS FALSE NEIGHBOUR: 'it returns false'. Refute it at one input. -/
def lawS4941BModelWrong : ChangeSpec := { name := "lawS4941BModel", fn := fun _ => fun
  | [d1, d2, d3, d4] => { results := [.lit (.bool false)], args := [d1, d2, d3, d4] }
  | _ => none }
def LawS4941BModelWrongFalsely : Prop := lawS4941BModelRow.holds Yba.pinned (OpenSpec.ofChange lawS4941BModelWrong)

/-- 'replica.LawS4941BPages': WHATEVER THE INPUT: true; the input reads as it did. -/
def lawS4941BPagesSpec : ChangeSpec := { name := "lawS4941BPages", fn := fun _ => fun
  | [d1, d2, d3, d4] => { results := [.lit (.bool true)], args := [d1, d2, d3, d4] }
  | _ => none }
def lawS4941BPagesRow : OpenClaim := { program := "ybulkcxho", sum := "9fbd2881176ae96eaa04ad352406a104cf26a7176000bc097ca34ab880fd232a", func := "example.com/quorate/quorate/replica.LawS4941BPages", spec := "lawS4941BPages", recurses := true, apart := false }
def LawS4941BPagesSaid : Prop := lawS4941BPagesRow.holds Yba.pinned (OpenSpec.ofChange lawS4941BPagesSpec)

/-- ITS FALSE NEIGHBOUR: 'it returns false'. Refute it at one input. -/
def lawS4941BPagesWrong : ChangeSpec := { name := "lawS4941BPages", fn := fun _ => fun
  | [d1, d2, d3, d4] => { results := [.lit (.bool false)], args := [d1, d2, d3, d4] }
  | _ => none }
def LawS4941BPagesWrongFalsely : Prop := lawS4941BPagesRow.holds Yba.pinned (OpenSpec.ofChange lawS4941BPagesWrong)

end Rows
end Go.Proofs.Ybulkcxho
