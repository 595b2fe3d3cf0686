/-
  No cell of these rows narrows 'for every input' (looked for: loops, veiled, ifaces, maps, wideKeys, modest, calm, conditions, laid).
  DERIVED. THE GIVEN ROWS OF THIS SEAT. 4 by the template 'for every input the law returns true; each argument reads behind the call as it read before'; 0 by the template 'total and deterministic' (their statements: YbulkduauTotals.lean).
  GIVEN WITH THE SEED: the statements are not yours to turn. If you find one false, say at which input.
  Laid BY PROGRAM, IN A SANDBOX (cutbox-rows.mjs): the forced cells as the released guide's own fill.sh prints them over the translation 86079f42022e1b31… (all of the seat's roots in one cut). By AI agents, Wed Nov 11 2026. No macro, syntax, notation, axiom, sorry.
-/
import Derived.Test.YbulkduauChecked
import GoSem.Claim
import GoSem.ClaimJoined
import GoSem.ClaimMapViews
import Derived.JoinedTies
import Derived.KernelRfl
namespace Go.Proofs.Ybulkduau
/- THE CELL 'sum', in the pinned program and in every row, IS THE sha256 OF THE DUMP (.gsa) THAT YbulkduauProg.lean LOADS. Nothing in Lean hashes anything: it is a label: what it is worth is what the hold of that sum in a sandbox is worth. -/
noncomputable def Yba.pinned : Pinned := { name := "ybulkduau", sum := "86079f42022e1b31b29b49147aa5f9552f25b114bf5f2a2494f3c65ae86020f9", checked := Yba.checked }
namespace Rows
def none {H : Type} : Left H := { results := [], args := [] }

/-- 'sim.LawS6039AWhole': WHATEVER THE INPUT: true; the input reads as it did. -/
def lawS6039AWholeSpec : ChangeSpec := { name := "lawS6039AWhole", fn := fun _ => fun
  | [d1, d2] => { results := [.lit (.bool true)], args := [d1, d2] }
  | _ => none }
def lawS6039AWholeRow : OpenClaim := { program := "ybulkduau", sum := "86079f42022e1b31b29b49147aa5f9552f25b114bf5f2a2494f3c65ae86020f9", func := "example.com/nearring/nearring/internal/sim.LawS6039AWhole", spec := "lawS6039AWhole", plainKeys := false, apart := false }
def LawS6039AWholeSaid : Prop := lawS6039AWholeRow.holds Yba.pinned (OpenSpec.ofChange lawS6039AWholeSpec)

/-- ITS FALSE NEIGHBOUR: 'it returns false'. Refute it at one input. -/
def lawS6039AWholeWrong : ChangeSpec := { name := "lawS6039AWhole", fn := fun _ => fun
  | [d1, d2] => { results := [.lit (.bool false)], args := [d1, d2] }
  | _ => none }
def LawS6039AWholeWrongFalsely : Prop := lawS6039AWholeRow.holds Yba.pinned (OpenSpec.ofChange lawS6039AWholeWrong)

/-- 'sim.LawS6039AOrder': WHATEVER THE INPUT: true; the input reads as it did. -/
def lawS6039AOrderSpec : ChangeSpec := { name := "lawS6039AOrder", fn := fun _ => fun
  | [d] => { results := [.lit (.bool true)], args := [d] }
  | _ => none }
def lawS6039AOrderRow : OpenClaim := { program := "ybulkduau", sum := "86079f42022e1b31b29b49147aa5f9552f25b114bf5f2a2494f3c65ae86020f9", func := "example.com/nearring/nearring/internal/sim.LawS6039AOrder", spec := "lawS6039AOrder", plainKeys := false, apart := false }
def LawS6039AOrderSaid : Prop := lawS6039AOrderRow.holds Yba.pinned (OpenSpec.ofChange lawS6039AOrderSpec)

/-- ITS FALSE NEIGHBOUR: 'it returns false'. Refute it at one input. -/
def lawS6039AOrderWrong : ChangeSpec := { name := "lawS6039AOrder", fn := fun _ => fun
  | [d] => { results := [.lit (.bool false)], args := [d] }
  | _ => none }
def LawS6039AOrderWrongFalsely : Prop := lawS6039AOrderRow.holds Yba.pinned (OpenSpec.ofChange lawS6039AOrderWrong)

/-- 'ring.LawS6039BWhole': WHATEVER THE INPUT: true; the input reads as it did. -/
def lawS6039BWholeSpec : ChangeSpec := { name := "lawS6039BWhole", fn := fun _ => fun
  | [d1, d2, d3, d4] => { results := [.lit (.bool true)], args := [d1, d2, d3, d4] }
  | _ => none }
def lawS6039BWholeRow : OpenClaim := { program := "ybulkduau", sum := "86079f42022e1b31b29b49147aa5f9552f25b114bf5f2a2494f3c65ae86020f9", func := "example.com/nearring/nearring/internal/ring.LawS6039BWhole", spec := "lawS6039BWhole", plainKeys := false, apart := false }
def LawS6039BWholeSaid : Prop := lawS6039BWholeRow.holds Yba.pinned (OpenSpec.ofChange lawS6039BWholeSpec)

/-- ITS FALSE NEIGHBOUR: 'it returns false'. Refute it at one input. -/
def lawS6039BWholeWrong : ChangeSpec := { name := "lawS6039BWhole", fn := fun _ => fun
  | [d1, d2, d3, d4] => { results := [.lit (.bool false)], args := [d1, d2, d3, d4] }
  | _ => none }
def LawS6039BWholeWrongFalsely : Prop := lawS6039BWholeRow.holds Yba.pinned (OpenSpec.ofChange lawS6039BWholeWrong)

/-- 'ring.LawS6039CWhole': WHATEVER THE INPUT: true; the input reads as it did. -/
def lawS6039CWholeSpec : ChangeSpec := { name := "lawS6039CWhole", fn := fun _ => fun
  | [d1, d2, d3, d4, d5] => { results := [.lit (.bool true)], args := [d1, d2, d3, d4, d5] }
  | _ => none }
def lawS6039CWholeRow : OpenClaim := { program := "ybulkduau", sum := "86079f42022e1b31b29b49147aa5f9552f25b114bf5f2a2494f3c65ae86020f9", func := "example.com/nearring/nearring/internal/ring.LawS6039CWhole", spec := "lawS6039CWhole", plainKeys := false, apart := false }
def LawS6039CWholeSaid : Prop := lawS6039CWholeRow.holds Yba.pinned (OpenSpec.ofChange lawS6039CWholeSpec)

/-- ITS FALSE NEIGHBOUR: 'it returns false'. Refute it at one input. -/
def lawS6039CWholeWrong : ChangeSpec := { name := "lawS6039CWhole", fn := fun _ => fun
  | [d1, d2, d3, d4, d5] => { results := [.lit (.bool false)], args := [d1, d2, d3, d4, d5] }
  | _ => none }
def LawS6039CWholeWrongFalsely : Prop := lawS6039CWholeRow.holds Yba.pinned (OpenSpec.ofChange lawS6039CWholeWrong)

end Rows
end Go.Proofs.Ybulkduau
