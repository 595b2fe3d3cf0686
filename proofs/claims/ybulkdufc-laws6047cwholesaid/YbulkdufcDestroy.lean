/-
  '(*Table).destroy'.
-/
import Derived.Test.YbulkdufcRemoveS
namespace Go.Proofs.Ybulkdufc
open Go.RowKit Go.Split
open Extern.Stop (cell)
theorem size45 : (Yba.prog.info? 45).map (·.size) = some 1 := by kernel_rfl
/-- One comparison of c with a cell of its owner's record. -/
structure Cmp (w : World) (B : Nat) (p : Option Addr) (b : Bool) : Prop where
  run : ∀ d, (Op.equalIn (d + 1) 45 (.pointer (some ⟨B + 10, 0, none⟩)) (.pointer p)).run Yba.prog w = .ok b w
theorem nilcmp (p : Option Addr) (w : World) : (binOp .eql 45 (.pointer p) (.pointer none)).run Yba.prog w = .ok (.bool p.isNone) w := by
  cases p with
  | none => exact eql45 (fun d => eq45_nil d _ _)
  | some a => exact eql45 (fun d => eq45_nil2 d _ _)

structure DPre (L : List Obj) (B : Nat) (id : Int) (ow : ByteArray) (m0 : Bool) (jo c i : Nat) (es : Array MapEntry) (pc pu : Option Addr) : Prop where
  tab : ∃ CT, L[8]? = some (.cells CT 44 (0, 0)) ∧ Tab CT B
  cli : ∃ CC, L[10]? = some (.cells CC 57 (0, 0)) ∧ Cli CC id ow m0 (B + 9)
  d : ∃ CD, L[12]? = some (.cells CD 57 (0, 0))
  o : L[13]? = some (.cells #[.pointer pc, .pointer pu] 60 (0, 0))
  hjo : jo = if m0 then 2 else 1
  owners : L[jo]? = some (.map es c)
  find : ∀ w : World, (Instr.findKey 9 (.string ow) es.toList).run Yba.prog w = .ok (some (i, .pointer (some ⟨B + 13, 0, none⟩))) w
end Go.Proofs.Ybulkdufc
