/-
  DERIVED. GIVEN WITH THE SEED: THE CARDS: each row of YbulkacrqeaFmtRows.lean that lists a variable, with what it lists TIED to the program's text (the seventh form; the later family's looks); each row that meets fmt, with fmt's text TOLD by the authors' own Lean function (tested against real Go, not proved from fmt's source: count such statements apart). THE CARD IS WHAT COUNTS. Prove the row's statement (the work); the ties are given (YbulkacrqeaFmtTie.lean); close each card by the builder's one call (the guide's Derived/Test/ToyasCard.lean, 'card_holds'). Laid BY PROGRAM, IN A SANDBOX (cutbox-door.mjs). By AI agents, Wed Nov 11 2026. No macro, syntax, notation, axiom, sorry.
-/
import Derived.Test.YbulkacrqeaFmtRows
import GoSem.ClaimSeven
namespace Go.Proofs.YbulkacrqeaFmt
namespace Rows

/-- THE TOLD CARD OF 'antecede.LawS970021AWhole'. -/
def lawS970021AWholeCard : Claim7 := { stood := { row := lawS970021AWholeRow, standIns := [], harness := (true, "3e487cb6ae9c37abb5c832890fcc86e15d2f22a9411d1e4e1be1f7826d5e3817"), looks := true }, told := true, goes := false }
def LawS970021AWholeToldSaid : Prop := Claim7.holds Ybaf.pinned (.plain (OpenSpec.ofChange lawS970021AWholeSpec)) lawS970021AWholeCard
/-- ITS FALSE NEIGHBOUR. Refute it at one input. -/
def LawS970021AWholeToldWrongFalsely : Prop := Claim7.holds Ybaf.pinned (.plain (OpenSpec.ofChange lawS970021AWholeWrong)) lawS970021AWholeCard
end Rows
end Go.Proofs.YbulkacrqeaFmt
