/-
  No cell of these rows narrows 'for every input' (looked for: loops, veiled, ifaces, maps, wideKeys, modest, calm, conditions, laid).
  DERIVED. THE GIVEN ROWS OF THIS SEAT. 1 by the template 'for every input the law returns true; each argument reads behind the call as it read before'; 0 by the template 'total and deterministic' (their statements: YbulkcxkgFmtTotals.lean).
  GIVEN WITH THE SEED: the statements are not yours to turn. If you find one false, say at which input.
  Laid BY PROGRAM, IN A SANDBOX (cutbox-rows.mjs): the forced cells as the released guide's own fill.sh prints them over the translation ef12050490e1edf8… (all of the seat's roots in one cut). By AI agents, Wed Nov 11 2026. No macro, syntax, notation, axiom, sorry.
-/
import Derived.Test.YbulkcxkgFmtChecked
import GoSem.Claim
import GoSem.ClaimJoined
import GoSem.ClaimMapViews
import Derived.JoinedTies
import Derived.KernelRfl
namespace Go.Proofs.YbulkcxkgFmt
/- THE CELL 'sum', in the pinned program and in every row, IS THE sha256 OF THE DUMP (.gsa) THAT YbulkcxkgFmtProg.lean LOADS. Nothing in Lean hashes anything: it is a label: what it is worth is what the hold of that sum in a sandbox is worth. -/
noncomputable def Ybaf.pinned : Pinned := { name := "ybulkcxkgfmt", sum := "ef12050490e1edf840f5782aed4074aab3ca5d1c7d9d92fff060d5e1d92055fb", checked := Ybaf.checked }
namespace Rows
def none {H : Type} : Left H := { results := [], args := [] }

/-- 'jsonbody.LawS4946CAlwaysErr': WHATEVER THE INPUT: true; the input reads as it did. -/
def lawS4946CAlwaysErrSpec : ChangeSpec := { name := "lawS4946CAlwaysErr", fn := fun _ => fun
  | [d1, d2, d3] => { results := [.lit (.bool true)], args := [d1, d2, d3] }
  | _ => none }
def lawS4946CAlwaysErrRow : OpenClaim := { program := "ybulkcxkgfmt", sum := "ef12050490e1edf840f5782aed4074aab3ca5d1c7d9d92fff060d5e1d92055fb", func := "example.com/libpaysign/libpaysign/internal/jsonbody.LawS4946CAlwaysErr", spec := "lawS4946CAlwaysErr", stops := ["fmt.Sprintf", "fmt.errorf"], inPlace := ["fmt.Sprintf", "fmt.errorf"], unfollowed := true, recurses := true, apart := false }
/-- NO THEOREM (fmt's text is open here; it may be false): for the released tool's asking of the row's closed facts alone. THE STATEMENT IS 'LawS4946CAlwaysErrToldSaid' (YbulkcxkgFmtCards.lean). -/
def LawS4946CAlwaysErrFormAsk : Prop := lawS4946CAlwaysErrRow.holds Ybaf.pinned (OpenSpec.ofChange lawS4946CAlwaysErrSpec)

/-- ITS FALSE NEIGHBOUR: 'it returns false'. Refute it at one input. -/
def lawS4946CAlwaysErrWrong : ChangeSpec := { name := "lawS4946CAlwaysErr", fn := fun _ => fun
  | [d1, d2, d3] => { results := [.lit (.bool false)], args := [d1, d2, d3] }
  | _ => none }
def LawS4946CAlwaysErrWrongFormAsk : Prop := lawS4946CAlwaysErrRow.holds Ybaf.pinned (OpenSpec.ofChange lawS4946CAlwaysErrWrong)

end Rows
end Go.Proofs.YbulkcxkgFmt
