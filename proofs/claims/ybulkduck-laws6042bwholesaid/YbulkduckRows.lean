/-
  No cell of these rows narrows 'for every input' (looked for: loops, veiled, ifaces, maps, wideKeys, modest, calm, conditions, laid).
  DERIVED. THE GIVEN ROWS OF THIS SEAT. 1 by the template 'for every input the law returns true; each argument reads behind the call as it read before'; 0 by the template 'total and deterministic' (their statements: YbulkduckTotals.lean).
  GIVEN WITH THE SEED: the statements are not yours to turn. If you find one false, say at which input.
  Laid BY PROGRAM, IN A SANDBOX (cutbox-rows.mjs): the forced cells as the released guide's own fill.sh prints them over the translation 1662facb178d4a99… (all of the seat's roots in one cut). By AI agents, Wed Nov 11 2026. No macro, syntax, notation, axiom, sorry.
-/
import Derived.Test.YbulkduckChecked
import GoSem.Claim
import GoSem.ClaimJoined
import GoSem.ClaimMapViews
import Derived.JoinedTies
import Derived.KernelRfl
namespace Go.Proofs.Ybulkduck
/- THE CELL 'sum', in the pinned program and in every row, IS THE sha256 OF THE DUMP (.gsa) THAT YbulkduckProg.lean LOADS. Nothing in Lean hashes anything: it is a label: what it is worth is what the hold of that sum in a sandbox is worth. -/
noncomputable def Yba.pinned : Pinned := { name := "ybulkduck", sum := "1662facb178d4a99622eb487af1dd67f799b8a06827c8cdcc8e6c7f1d4f80407", checked := Yba.checked }
namespace Rows
def none {H : Type} : Left H := { results := [], args := [] }

/-- 'risoku.LawS6042BWhole': WHATEVER THE INPUT: true; the input reads as it did. -/
def lawS6042BWholeSpec : ChangeSpec := { name := "lawS6042BWhole", fn := fun _ => fun
  | [d1, d2, d3, d4, d5] => { results := [.lit (.bool true)], args := [d1, d2, d3, d4, d5] }
  | _ => none }
def lawS6042BWholeRow : OpenClaim := { program := "ybulkduck", sum := "1662facb178d4a99622eb487af1dd67f799b8a06827c8cdcc8e6c7f1d4f80407", func := "example.com/risoku/risoku.LawS6042BWhole", spec := "lawS6042BWhole", apart := false }
def LawS6042BWholeSaid : Prop := lawS6042BWholeRow.holds Yba.pinned (OpenSpec.ofChange lawS6042BWholeSpec)

/-- ITS FALSE NEIGHBOUR: 'it returns false'. Refute it at one input. -/
def lawS6042BWholeWrong : ChangeSpec := { name := "lawS6042BWhole", fn := fun _ => fun
  | [d1, d2, d3, d4, d5] => { results := [.lit (.bool false)], args := [d1, d2, d3, d4, d5] }
  | _ => none }
def LawS6042BWholeWrongFalsely : Prop := lawS6042BWholeRow.holds Yba.pinned (OpenSpec.ofChange lawS6042BWholeWrong)

end Rows
end Go.Proofs.Ybulkduck
