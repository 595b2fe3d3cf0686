/-
  No cell of these rows narrows 'for every input' (looked for: loops, veiled, ifaces, maps, wideKeys, modest, calm, conditions, laid).
  DERIVED. THE GIVEN ROWS OF THIS SEAT. 1 by the template 'for every input the law returns true; each argument reads behind the call as it read before'; 0 by the template 'total and deterministic' (their statements: YbulkdufcTotals.lean).
  GIVEN WITH THE SEED: the statements are not yours to turn. If you find one false, say at which input.
  Laid BY PROGRAM, IN A SANDBOX (cutbox-rows.mjs): the forced cells as the released guide's own fill.sh prints them over the translation 24f023df1a1f1c93… (all of the seat's roots in one cut). By AI agents, Wed Nov 11 2026. No macro, syntax, notation, axiom, sorry.
-/
import Derived.Test.YbulkdufcChecked
import GoSem.Claim
import GoSem.ClaimJoined
import GoSem.ClaimMapViews
import Derived.JoinedTies
import Derived.KernelRfl
namespace Go.Proofs.Ybulkdufc
/- THE CELL 'sum', in the pinned program and in every row, IS THE sha256 OF THE DUMP (.gsa) THAT YbulkdufcProg.lean LOADS. Nothing in Lean hashes anything: it is a label: what it is worth is what the hold of that sum in a sandbox is worth. -/
noncomputable def Yba.pinned : Pinned := { name := "ybulkdufc", sum := "24f023df1a1f1c93eee0ebfe55b0ca1559963b67a343d61869f1c85a08764045", checked := Yba.checked }
namespace Rows
def none {H : Type} : Left H := { results := [], args := [] }

/-- 'state.LawS6047CWhole': WHATEVER THE INPUT: true; the input reads as it did. -/
def lawS6047CWholeSpec : ChangeSpec := { name := "lawS6047CWhole", fn := fun _ => fun
  | [d1, d2, d3, d4, d5, d6, d7, d8, d9] => { results := [.lit (.bool true)], args := [d1, d2, d3, d4, d5, d6, d7, d8, d9] }
  | _ => none }
def lawS6047CWholeRow : OpenClaim := { program := "ybulkdufc", sum := "24f023df1a1f1c93eee0ebfe55b0ca1559963b67a343d61869f1c85a08764045", func := "example.com/trunkline/trunkline/internal/state.LawS6047CWhole", spec := "lawS6047CWhole", plainKeys := false, apart := false }
def LawS6047CWholeSaid : Prop := lawS6047CWholeRow.holds Yba.pinned (OpenSpec.ofChange lawS6047CWholeSpec)

/-- ITS FALSE NEIGHBOUR: 'it returns false'. Refute it at one input. -/
def lawS6047CWholeWrong : ChangeSpec := { name := "lawS6047CWhole", fn := fun _ => fun
  | [d1, d2, d3, d4, d5, d6, d7, d8, d9] => { results := [.lit (.bool false)], args := [d1, d2, d3, d4, d5, d6, d7, d8, d9] }
  | _ => none }
def LawS6047CWholeWrongFalsely : Prop := lawS6047CWholeRow.holds Yba.pinned (OpenSpec.ofChange lawS6047CWholeWrong)

end Rows
end Go.Proofs.Ybulkdufc
