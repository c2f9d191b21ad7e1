/-
  No cell of these rows narrows 'for every input' (looked for: loops, veiled, ifaces, maps, wideKeys, modest, calm, conditions, laid).
  DERIVED. THE GIVEN ROWS OF THIS SEAT. 1 by the template 'for every input the law returns true; each argument reads behind the call as it read before'; 0 by the template 'total and deterministic' (their statements: YbulkexnzkTotals.lean).
  GIVEN WITH THE SEED: the statements are not yours to turn. If you find one false, say at which input.
  Laid BY PROGRAM, IN A SANDBOX (cutbox-rows.mjs): the forced cells as the released guide's own fill.sh prints them over the translation 71983a82750bf1c1… (all of the seat's roots in one cut). By AI agents, Wed Nov 11 2026. No macro, syntax, notation, axiom, sorry.
-/
import Derived.Test.YbulkexnzkChecked
import GoSem.Claim
import GoSem.ClaimJoined
import GoSem.ClaimMapViews
import Derived.JoinedTies
import Derived.KernelRfl
namespace Go.Proofs.Ybulkexnzk
/- THE CELL 'sum', in the pinned program and in every row, IS THE sha256 OF THE DUMP (.gsa) THAT YbulkexnzkProg.lean LOADS. Nothing in Lean hashes anything: it is a label: what it is worth is what the hold of that sum in a sandbox is worth. -/
noncomputable def Yba.pinned : Pinned := { name := "ybulkexnzk", sum := "71983a82750bf1c10a5939bc65b2251972ba0715f6aff0d76f5656f2395acfc2", checked := Yba.checked }
namespace Rows
def none {H : Type} : Left H := { results := [], args := [] }

/-- 'scan.LawS194061BWhole': WHATEVER THE INPUT: true; the input reads as it did. -/
def lawS194061BWholeSpec : ChangeSpec := { name := "lawS194061BWhole", fn := fun _ => fun
  | [d1, d2, d3, d4] => { results := [.lit (.bool true)], args := [d1, d2, d3, d4] }
  | _ => none }
def lawS194061BWholeRow : OpenClaim := { program := "ybulkexnzk", sum := "71983a82750bf1c10a5939bc65b2251972ba0715f6aff0d76f5656f2395acfc2", func := "example.com/lilt/lilt/pkg/scan.LawS194061BWhole", spec := "lawS194061BWhole", apart := false }
def LawS194061BWholeSaid : Prop := lawS194061BWholeRow.holds Yba.pinned (OpenSpec.ofChange lawS194061BWholeSpec)

/-- ITS FALSE NEIGHBOUR: 'it returns false'. Refute it at one input. -/
def lawS194061BWholeWrong : ChangeSpec := { name := "lawS194061BWhole", fn := fun _ => fun
  | [d1, d2, d3, d4] => { results := [.lit (.bool false)], args := [d1, d2, d3, d4] }
  | _ => none }
def LawS194061BWholeWrongFalsely : Prop := lawS194061BWholeRow.holds Yba.pinned (OpenSpec.ofChange lawS194061BWholeWrong)

end Rows
end Go.Proofs.Ybulkexnzk
