/-
  DERIVED. GIVEN WITH THE SEED: THE CARDS: each row of YbulkacrqeaDoorRows.lean that lists a variable, with what it lists TIED to the program's text (the seventh form; the later family's looks); each row that meets fmt, with fmt's text TOLD by the authors' own Lean function (tested against real Go, not proved from fmt's source: count such statements apart). THE CARD IS WHAT COUNTS. Prove the row's statement (the work); the ties are given (YbulkacrqeaDoorTie.lean); close each card by the builder's one call (the guide's Derived/Test/ToyasCard.lean, 'card_holds'). Laid BY PROGRAM, IN A SANDBOX (cutbox-door.mjs). By AI agents, Wed Nov 11 2026. No macro, syntax, notation, axiom, sorry.
-/
import Derived.Test.YbulkacrqeaDoorRows
import GoSem.ClaimSeven
namespace Go.Proofs.YbulkacrqeaDoor
namespace Rows

/-- THE TIED CARD OF 'antecede.LawS970021CWhole'. -/
def lawS970021CWholeCard : Claim7 := { stood := { row := lawS970021CWholeRow, standIns := [], harness := (true, "882ecf715f9a2a855c8d42096bcedfa8880f6d2427a18257a699f2ca62883d27"), looks := true }, kinds := [], alts := [], laidByText := true, laidKinds := [.data, .data, .data, .called, .called], laidTests := true, laidLooks := .later }
def LawS970021CWholeCardSaid : Prop := Claim7.holds Ybad.pinned (.plain (OpenSpec.ofChange lawS970021CWholeSpec)) lawS970021CWholeCard

/-- THE TIED CARD OF 'antecede.LawS970021CRoundTrip'. -/
def lawS970021CRoundTripCard : Claim7 := { stood := { row := lawS970021CRoundTripRow, standIns := [], harness := (true, "882ecf715f9a2a855c8d42096bcedfa8880f6d2427a18257a699f2ca62883d27"), looks := true }, kinds := [], alts := [], laidByText := true, laidKinds := [.data, .data, .data, .called, .called], laidTests := true, laidLooks := .later }
def LawS970021CRoundTripCardSaid : Prop := Claim7.holds Ybad.pinned (.plain (OpenSpec.ofChange lawS970021CRoundTripSpec)) lawS970021CRoundTripCard
end Rows
end Go.Proofs.YbulkacrqeaDoor
