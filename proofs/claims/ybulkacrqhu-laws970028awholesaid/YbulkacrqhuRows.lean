/-
  No cell of these rows narrows 'for every input' (looked for: loops, veiled, ifaces, maps, wideKeys, modest, calm, conditions, laid).
  DERIVED. THE GIVEN ROWS OF THIS SEAT. 1 by the template 'for every input the law returns true; each argument reads behind the call as it read before'; 0 by the template 'total and deterministic' (their statements: YbulkacrqhuTotals.lean).
  GIVEN WITH THE SEED: the statements are not yours to turn. If you find one false, say at which input.
  Laid BY PROGRAM, IN A SANDBOX (cutbox-rows.mjs): the forced cells as the released guide's own fill.sh prints them over the translation 9a49d33cd4d1ede1… (all of the seat's roots in one cut). By AI agents, Wed Nov 11 2026. No macro, syntax, notation, axiom, sorry.
-/
import Derived.Test.YbulkacrqhuChecked
import GoSem.Claim
import GoSem.ClaimJoined
import GoSem.ClaimMapViews
import Derived.JoinedTies
import Derived.KernelRfl
namespace Go.Proofs.Ybulkacrqhu
/- THE CELL 'sum', in the pinned program and in every row, IS THE sha256 OF THE DUMP (.gsa) THAT YbulkacrqhuProg.lean LOADS. Nothing in Lean hashes anything: it is a label: what it is worth is what the hold of that sum in a sandbox is worth. -/
noncomputable def Yba.pinned : Pinned := { name := "ybulkacrqhu", sum := "9a49d33cd4d1ede1524332bb4f1132fd228ca84d4a25bb6f0473744538c2ede1", checked := Yba.checked }
namespace Rows
def none {H : Type} : Left H := { results := [], args := [] }

/-- 'decision.LawS970028AWhole': WHATEVER THE INPUT: true; the input reads as it did. -/
def lawS970028AWholeSpec : ChangeSpec := { name := "lawS970028AWhole", fn := fun _ => fun
  | [d1, d2, d3] => { results := [.lit (.bool true)], args := [d1, d2, d3] }
  | _ => none }
def lawS970028AWholeRow : OpenClaim := { program := "ybulkacrqhu", sum := "9a49d33cd4d1ede1524332bb4f1132fd228ca84d4a25bb6f0473744538c2ede1", func := "example.com/portunus/portunus/decision.LawS970028AWhole", spec := "lawS970028AWhole", apart := false }
def LawS970028AWholeSaid : Prop := lawS970028AWholeRow.holds Yba.pinned (OpenSpec.ofChange lawS970028AWholeSpec)

/-- ITS FALSE NEIGHBOUR: 'it returns false'. Refute it at one input. -/
def lawS970028AWholeWrong : ChangeSpec := { name := "lawS970028AWhole", fn := fun _ => fun
  | [d1, d2, d3] => { results := [.lit (.bool false)], args := [d1, d2, d3] }
  | _ => none }
def LawS970028AWholeWrongFalsely : Prop := lawS970028AWholeRow.holds Yba.pinned (OpenSpec.ofChange lawS970028AWholeWrong)

end Rows
end Go.Proofs.Ybulkacrqhu
