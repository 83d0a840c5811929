/-
  No cell of these rows narrows 'for every input' (looked for: loops, veiled, ifaces, maps, wideKeys, modest, calm, conditions, laid).
  DERIVED. THE GIVEN ROWS OF THIS SEAT. 1 by the template 'for every input the law returns true; each argument reads behind the call as it read before'; 0 by the template 'total and deterministic' (their statements: YbulkacrqhgTotals.lean).
  GIVEN WITH THE SEED: the statements are not yours to turn. If you find one false, say at which input.
  Laid BY PROGRAM, IN A SANDBOX (cutbox-rows.mjs): the forced cells as the released guide's own fill.sh prints them over the translation 9ec9aee1bd2b64fb… (all of the seat's roots in one cut). By AI agents, Wed Nov 11 2026. No macro, syntax, notation, axiom, sorry.
-/
import Derived.Test.YbulkacrqhgChecked
import GoSem.Claim
import GoSem.ClaimJoined
import GoSem.ClaimMapViews
import Derived.JoinedTies
import Derived.KernelRfl
namespace Go.Proofs.Ybulkacrqhg
/- THE CELL 'sum', in the pinned program and in every row, IS THE sha256 OF THE DUMP (.gsa) THAT YbulkacrqhgProg.lean LOADS. Nothing in Lean hashes anything: it is a label: what it is worth is what the hold of that sum in a sandbox is worth. -/
noncomputable def Yba.pinned : Pinned := { name := "ybulkacrqhg", sum := "9ec9aee1bd2b64fb95f112d24cd63e4b3c762eab42d3d82c4f3aa9b1f0c4d099", checked := Yba.checked }
namespace Rows
def none {H : Type} : Left H := { results := [], args := [] }

/-- 'authz.LawS970027AWhole': WHATEVER THE INPUT: true; the input reads as it did. -/
def lawS970027AWholeSpec : ChangeSpec := { name := "lawS970027AWhole", fn := fun _ => fun
  | [d1, d2, d3, d4, d5, d6, d7, d8, d9, d10, d11, d12] => { results := [.lit (.bool true)], args := [d1, d2, d3, d4, d5, d6, d7, d8, d9, d10, d11, d12] }
  | _ => none }
def lawS970027AWholeRow : OpenClaim := { program := "ybulkacrqhg", sum := "9ec9aee1bd2b64fb95f112d24cd63e4b3c762eab42d3d82c4f3aa9b1f0c4d099", func := "example.com/strand4/strand4/authz.LawS970027AWhole", spec := "lawS970027AWhole", apart := false }
def LawS970027AWholeSaid : Prop := lawS970027AWholeRow.holds Yba.pinned (OpenSpec.ofChange lawS970027AWholeSpec)

/-- ITS FALSE NEIGHBOUR: 'it returns false'. Refute it at one input. -/
def lawS970027AWholeWrong : ChangeSpec := { name := "lawS970027AWhole", fn := fun _ => fun
  | [d1, d2, d3, d4, d5, d6, d7, d8, d9, d10, d11, d12] => { results := [.lit (.bool false)], args := [d1, d2, d3, d4, d5, d6, d7, d8, d9, d10, d11, d12] }
  | _ => none }
def LawS970027AWholeWrongFalsely : Prop := lawS970027AWholeRow.holds Yba.pinned (OpenSpec.ofChange lawS970027AWholeWrong)

end Rows
end Go.Proofs.Ybulkacrqhg
