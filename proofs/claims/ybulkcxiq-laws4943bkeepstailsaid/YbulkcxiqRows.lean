/-
  No cell of these rows narrows 'for every input' (looked for: loops, veiled, ifaces, maps, wideKeys, modest, calm, conditions, laid).
  DERIVED. THE GIVEN ROWS OF THIS SEAT. 3 by the template 'for every input the law returns true; each argument reads behind the call as it read before'; 0 by the template 'total and deterministic' (their statements: YbulkcxiqTotals.lean).
  GIVEN WITH THE SEED: the statements are not yours to turn. If you find one false, say at which input.
  Laid BY PROGRAM, IN A SANDBOX (cutbox-rows.mjs): the forced cells as the released guide's own fill.sh prints them over the translation 8799cd258dec39bc… (all of the seat's roots in one cut). By AI agents, Wed Nov 11 2026. No macro, syntax, notation, axiom, sorry.
-/
import Derived.Test.YbulkcxiqChecked
import GoSem.Claim
import GoSem.ClaimJoined
import GoSem.ClaimMapViews
import Derived.JoinedTies
import Derived.KernelRfl
namespace Go.Proofs.Ybulkcxiq
/- THE CELL 'sum', in the pinned program and in every row, IS THE sha256 OF THE DUMP (.gsa) THAT YbulkcxiqProg.lean LOADS. Nothing in Lean hashes anything: it is a label: what it is worth is what the hold of that sum in a sandbox is worth. -/
noncomputable def Yba.pinned : Pinned := { name := "ybulkcxiq", sum := "8799cd258dec39bcd9015e07eece3834aa28116214030b10a6a30368e5416778", checked := Yba.checked }
namespace Rows
def none {H : Type} : Left H := { results := [], args := [] }

/-- 'proc.LawS4943BKeepsTail': WHATEVER THE INPUT: true; the input reads as it did. -/
def lawS4943BKeepsTailSpec : ChangeSpec := { name := "lawS4943BKeepsTail", fn := fun _ => fun
  | [d1, d2, d3, d4] => { results := [.lit (.bool true)], args := [d1, d2, d3, d4] }
  | _ => none }
def lawS4943BKeepsTailRow : OpenClaim := { program := "ybulkcxiq", sum := "8799cd258dec39bcd9015e07eece3834aa28116214030b10a6a30368e5416778", func := "example.com/tessera/tessera/proc.LawS4943BKeepsTail", spec := "lawS4943BKeepsTail", apart := false }
def LawS4943BKeepsTailSaid : Prop := lawS4943BKeepsTailRow.holds Yba.pinned (OpenSpec.ofChange lawS4943BKeepsTailSpec)

/-- ITS FALSE NEIGHBOUR: 'it returns false'. Refute it at one input. -/
def lawS4943BKeepsTailWrong : ChangeSpec := { name := "lawS4943BKeepsTail", fn := fun _ => fun
  | [d1, d2, d3, d4] => { results := [.lit (.bool false)], args := [d1, d2, d3, d4] }
  | _ => none }
def LawS4943BKeepsTailWrongFalsely : Prop := lawS4943BKeepsTailRow.holds Yba.pinned (OpenSpec.ofChange lawS4943BKeepsTailWrong)

/-- 'sim.LawS4943CTable': WHATEVER THE INPUT: true; the input reads as it did. -/
def lawS4943CTableSpec : ChangeSpec := { name := "lawS4943CTable", fn := fun _ => fun
  | [d1, d2, d3, d4, d5, d6, d7] => { results := [.lit (.bool true)], args := [d1, d2, d3, d4, d5, d6, d7] }
  | _ => none }
def lawS4943CTableRow : OpenClaim := { program := "ybulkcxiq", sum := "8799cd258dec39bcd9015e07eece3834aa28116214030b10a6a30368e5416778", func := "example.com/tessera/tessera/sim.LawS4943CTable", spec := "lawS4943CTable", apart := false }
def LawS4943CTableSaid : Prop := lawS4943CTableRow.holds Yba.pinned (OpenSpec.ofChange lawS4943CTableSpec)

/-- ITS FALSE NEIGHBOUR: 'it returns false'. Refute it at one input. -/
def lawS4943CTableWrong : ChangeSpec := { name := "lawS4943CTable", fn := fun _ => fun
  | [d1, d2, d3, d4, d5, d6, d7] => { results := [.lit (.bool false)], args := [d1, d2, d3, d4, d5, d6, d7] }
  | _ => none }
def LawS4943CTableWrongFalsely : Prop := lawS4943CTableRow.holds Yba.pinned (OpenSpec.ofChange lawS4943CTableWrong)

/-- 'sim.LawS4943CDetourAgrees': WHATEVER THE INPUT: true; the input reads as it did. -/
def lawS4943CDetourAgreesSpec : ChangeSpec := { name := "lawS4943CDetourAgrees", fn := fun _ => fun
  | [d1, d2, d3, d4] => { results := [.lit (.bool true)], args := [d1, d2, d3, d4] }
  | _ => none }
def lawS4943CDetourAgreesRow : OpenClaim := { program := "ybulkcxiq", sum := "8799cd258dec39bcd9015e07eece3834aa28116214030b10a6a30368e5416778", func := "example.com/tessera/tessera/sim.LawS4943CDetourAgrees", spec := "lawS4943CDetourAgrees", apart := false }
def LawS4943CDetourAgreesSaid : Prop := lawS4943CDetourAgreesRow.holds Yba.pinned (OpenSpec.ofChange lawS4943CDetourAgreesSpec)

/-- ITS FALSE NEIGHBOUR: 'it returns false'. Refute it at one input. -/
def lawS4943CDetourAgreesWrong : ChangeSpec := { name := "lawS4943CDetourAgrees", fn := fun _ => fun
  | [d1, d2, d3, d4] => { results := [.lit (.bool false)], args := [d1, d2, d3, d4] }
  | _ => none }
def LawS4943CDetourAgreesWrongFalsely : Prop := lawS4943CDetourAgreesRow.holds Yba.pinned (OpenSpec.ofChange lawS4943CDetourAgreesWrong)

end Rows
end Go.Proofs.Ybulkcxiq
