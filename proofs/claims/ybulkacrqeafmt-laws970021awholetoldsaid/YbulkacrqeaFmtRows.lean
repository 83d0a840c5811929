/-
  No cell of these rows narrows 'for every input' (looked for: loops, veiled, ifaces, maps, wideKeys, modest, calm, conditions, laid).
  DERIVED. THE GIVEN ROWS OF THIS SEAT. 1 by the template 'for every input the law returns true; each argument reads behind the call as it read before'; 0 by the template 'total and deterministic' (their statements: YbulkacrqeaFmtTotals.lean).
  GIVEN WITH THE SEED: the statements are not yours to turn. If you find one false, say at which input.
  Laid BY PROGRAM, IN A SANDBOX (cutbox-rows.mjs): the forced cells as the released guide's own fill.sh prints them over the translation 8654ea69a20d1571… (all of the seat's roots in one cut). By AI agents, Wed Nov 11 2026. No macro, syntax, notation, axiom, sorry.
-/
import Derived.Test.YbulkacrqeaFmtChecked
import GoSem.Claim
import GoSem.ClaimJoined
import GoSem.ClaimMapViews
import Derived.JoinedTies
import Derived.KernelRfl
namespace Go.Proofs.YbulkacrqeaFmt
/- THE CELL 'sum', in the pinned program and in every row, IS THE sha256 OF THE DUMP (.gsa) THAT YbulkacrqeaFmtProg.lean LOADS. Nothing in Lean hashes anything: it is a label: what it is worth is what the hold of that sum in a sandbox is worth. -/
noncomputable def Ybaf.pinned : Pinned := { name := "ybulkacrqeafmt", sum := "8654ea69a20d157188154557cfb2cf51fbb678b6cad555eb0c19071bb960356e", checked := Ybaf.checked }
namespace Rows
def none {H : Type} : Left H := { results := [], args := [] }

/-- 'antecede.LawS970021AWhole': WHATEVER THE INPUT: true; the input reads as it did. -/
def lawS970021AWholeSpec : ChangeSpec := { name := "lawS970021AWhole", fn := fun _ => fun
  | [d1, d2, d3, d4, d5] => { results := [.lit (.bool true)], args := [d1, d2, d3, d4, d5] }
  | _ => none }
def lawS970021AWholeRow : OpenClaim := { program := "ybulkacrqeafmt", sum := "8654ea69a20d157188154557cfb2cf51fbb678b6cad555eb0c19071bb960356e", func := "example.com/antecede/antecede.LawS970021AWhole", spec := "lawS970021AWhole", stops := ["fmt.Sprintf"], inPlace := ["internal/bytealg.abigen_runtime_cmpstring", "fmt.Sprintf"], unfollowed := true, recurses := true, apart := false }
/-- NO THEOREM (fmt's text is open here; it may be false): for the released tool's asking of the row's closed facts alone. THE STATEMENT IS 'LawS970021AWholeToldSaid' (YbulkacrqeaFmtCards.lean). -/
def LawS970021AWholeFormAsk : Prop := lawS970021AWholeRow.holds Ybaf.pinned (OpenSpec.ofChange lawS970021AWholeSpec)

/-- ITS FALSE NEIGHBOUR: 'it returns false'. Refute it at one input. -/
def lawS970021AWholeWrong : ChangeSpec := { name := "lawS970021AWhole", fn := fun _ => fun
  | [d1, d2, d3, d4, d5] => { results := [.lit (.bool false)], args := [d1, d2, d3, d4, d5] }
  | _ => none }
def LawS970021AWholeWrongFormAsk : Prop := lawS970021AWholeRow.holds Ybaf.pinned (OpenSpec.ofChange lawS970021AWholeWrong)

end Rows
end Go.Proofs.YbulkacrqeaFmt
