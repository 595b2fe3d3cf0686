/-
  No cell of these rows narrows 'for every input' (looked for: loops, veiled, ifaces, maps, wideKeys, modest, calm, conditions, laid).
  DERIVED. THE GIVEN ROWS OF THIS SEAT. 1 by the template 'for every input the law returns true; each argument reads behind the call as it read before'; 0 by the template 'total and deterministic' (their statements: YbulkdudmTotals.lean).
  GIVEN WITH THE SEED: the statements are not yours to turn. If you find one false, say at which input.
  Laid BY PROGRAM, IN A SANDBOX (cutbox-rows.mjs): the forced cells as the released guide's own fill.sh prints them over the translation 2fb67b791769c2c7… (all of the seat's roots in one cut). By AI agents, Wed Nov 11 2026. No macro, syntax, notation, axiom, sorry.
-/
import Derived.Test.YbulkdudmChecked
import GoSem.Claim
import GoSem.ClaimJoined
import GoSem.ClaimMapViews
import Derived.JoinedTies
import Derived.KernelRfl
namespace Go.Proofs.Ybulkdudm
/- THE CELL 'sum', in the pinned program and in every row, IS THE sha256 OF THE DUMP (.gsa) THAT YbulkdudmProg.lean LOADS. Nothing in Lean hashes anything: it is a label: what it is worth is what the hold of that sum in a sandbox is worth. -/
noncomputable def Yba.pinned : Pinned := { name := "ybulkdudm", sum := "2fb67b791769c2c719de482672d4b1062bbed5cbfd5a22235671d129f427c9ce", checked := Yba.checked }
namespace Rows
def none {H : Type} : Left H := { results := [], args := [] }

/-- 'overlay.LawS6044BWhole': WHATEVER THE INPUT: true; the input reads as it did. -/
def lawS6044BWholeSpec : ChangeSpec := { name := "lawS6044BWhole", fn := fun _ => fun
  | [d1, d2] => { results := [.lit (.bool true)], args := [d1, d2] }
  | _ => none }
def lawS6044BWholeRow : OpenClaim := { program := "ybulkdudm", sum := "2fb67b791769c2c719de482672d4b1062bbed5cbfd5a22235671d129f427c9ce", func := "example.com/tocsin/tocsin/overlay.LawS6044BWhole", spec := "lawS6044BWhole", apart := false }
def LawS6044BWholeSaid : Prop := lawS6044BWholeRow.holds Yba.pinned (OpenSpec.ofChange lawS6044BWholeSpec)

/-- ITS FALSE NEIGHBOUR: 'it returns false'. Refute it at one input. -/
def lawS6044BWholeWrong : ChangeSpec := { name := "lawS6044BWhole", fn := fun _ => fun
  | [d1, d2] => { results := [.lit (.bool false)], args := [d1, d2] }
  | _ => none }
def LawS6044BWholeWrongFalsely : Prop := lawS6044BWholeRow.holds Yba.pinned (OpenSpec.ofChange lawS6044BWholeWrong)

end Rows
end Go.Proofs.Ybulkdudm
