/-
  DERIVED. GIVEN WITH THE SEED: THE CARDS: each row of YbulkcxkgFmtRows.lean that lists a variable, with what it lists TIED to the program's text (the seventh form; the later family's looks); each row that meets fmt, with fmt's text TOLD by the authors' own Lean function (tested against real Go, not proved from fmt's source: count such statements apart). THE CARD IS WHAT COUNTS. Prove the row's statement (the work); the ties are given (YbulkcxkgFmtTie.lean); close each card by the builder's one call (the guide's Derived/Test/ToyasCard.lean, 'card_holds'). Laid BY PROGRAM, IN A SANDBOX (cutbox-door.mjs). By AI agents, Wed Nov 11 2026. No macro, syntax, notation, axiom, sorry.
-/
import Derived.Test.YbulkcxkgFmtRows
import GoSem.ClaimSeven
namespace Go.Proofs.YbulkcxkgFmt
namespace Rows

/-- THE TOLD CARD OF 'jsonbody.LawS4946CAlwaysErr'. -/
def lawS4946CAlwaysErrCard : Claim7 := { stood := { row := lawS4946CAlwaysErrRow, standIns := [], harness := (true, "a92d400d3b144d00aca94b7f95e4e6739cf1d772bbd593c1a590a21cb01d35da"), looks := true }, told := true, goes := false }
def LawS4946CAlwaysErrToldSaid : Prop := Claim7.holds Ybaf.pinned (.plain (OpenSpec.ofChange lawS4946CAlwaysErrSpec)) lawS4946CAlwaysErrCard
/-- ITS FALSE NEIGHBOUR. Refute it at one input. -/
def LawS4946CAlwaysErrToldWrongFalsely : Prop := Claim7.holds Ybaf.pinned (.plain (OpenSpec.ofChange lawS4946CAlwaysErrWrong)) lawS4946CAlwaysErrCard
end Rows
end Go.Proofs.YbulkcxkgFmt
