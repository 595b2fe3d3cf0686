/-
  The law's function returns true, and leaves what lay below as it was.
-/
import Derived.Test.YbulkdufcPhA
import Derived.Test.YbulkdufcPhB
import Derived.Test.YbulkdufcPhC
import Derived.Test.YbulkdufcPhD
import Derived.Test.YbulkdufcPhE
import Derived.Test.YbulkdufcPhF
namespace Go.Proofs.Ybulkdufc
open Go.RowKit Go.Split
theorem whole (a0 : Int) (a1 a2 : ByteArray) (a3 : Bool) (a4 : Int) (a5 : Bool) (a6 : Int) (a7 : Bool) (a8 : Int) (f4 : (Lit.int .u8 a4).wf = true) (f6 : (Lit.int .u8 a6).wf = true) (w : World) :
    Calls Yba.prog 3 #[.int .u64 a0, .string a1, .string a2, .bool a3, .int .u8 a4, .bool a5, .int .u8 a6, .bool a7, .int .u64 a8] w fun e w' => e = .returned (.bool true) ∧ Below w.heap.size w w' := by
  obtain ⟨R, hRe⟩ : ∃ R : Ending → World → Prop, R = fun e w' => e = .returned (.bool true) ∧ Below w.heap.size w w' := ⟨_, rfl⟩
  have hR : ∀ w', Below w.heap.size w w' → R (.returned (.bool true)) w' := fun w' h => by rw [hRe]; exact ⟨rfl, h⟩
  rw [← hRe]
  clear hRe
  refine entry a0 a1 a2 a3 a4 a5 a6 a7 a8 w R (phA a0 a1 a2 a3 a4 a5 a6 a7 a8 f4 w w w.heap.size R _ (Mem.start w) ?_)
  intro CT CC CD k pc pu pc1 pu1 kept s1 w1 T C D W M1
  refine phB a0 a1 a2 a3 a4 a5 a6 a7 a8 f6 w w1 w.heap.size R s1 CT CC CD k pc pu T C M1 ?_
  intro st r CO CO1 s2 w2 h6 hst CW M2
  refine phC a0 a1 a2 a3 a4 a5 a6 a7 a8 w w2 w.heap.size R s2 CT CC CD k st CO _ _ pc pu T C D M2 ?_ ?_
  · intro h7 s3 w3 M3
    subst h7
    refine phD a0 a1 a2 a3 a4 a5 a6 false a8 w w3 w.heap.size R s3 k r st kept pc pu pc1 pu1 W _ M3 FinN (destroyed_no T C W CW hst M3) ?_
    intro L s4 w4 FE FN M4
    cases st with
    | false => cases kept with
      | false => exact phE_nn a0 a1 a2 a3 a4 a5 a6 false a8 w w4 w.heap.size R s4 r pc1 pu1 L h6 FE M4 fun s5 w5 M5 => phF_n a0 a1 a2 a3 a4 a5 a6 a8 w w5 w.heap.size R s5 r false false pc1 pu1 L FE FN M5 hR
      | true => exact phE_nk a0 a1 a2 a3 a4 a5 a6 false a8 w w4 w.heap.size R s4 r pc1 pu1 L h6 FE M4 fun s5 w5 M5 => phF_n a0 a1 a2 a3 a4 a5 a6 a8 w w5 w.heap.size R s5 r false true pc1 pu1 L FE FN M5 hR
    | true => cases kept with
      | false => exact phE_sn a0 a1 a2 a3 a4 a5 a6 false a8 w w4 w.heap.size R s4 r pc1 pu1 L h6 FE M4 fun s5 w5 M5 => phF_n a0 a1 a2 a3 a4 a5 a6 a8 w w5 w.heap.size R s5 r true false pc1 pu1 L FE FN M5 hR
      | true => exact phE_sk a0 a1 a2 a3 a4 a5 a6 false a8 w w4 w.heap.size R s4 r pc1 pu1 L h6 FE M4 fun s5 w5 M5 => phF_n a0 a1 a2 a3 a4 a5 a6 a8 w w5 w.heap.size R s5 r true true pc1 pu1 L FE FN M5 hR
  · intro h7 sw CS1 CS2 s3 w3 S1 S2 M3
    subst h7
    refine phD a0 a1 a2 a3 a4 a5 a6 true a8 w w3 w.heap.size R s3 k r st kept pc pu pc1 pu1 W _ M3 (fun L => FinS L w.heap.size (nn st) a0 a8) (destroyed_se T C D W CW hst S1 S2 M3) ?_
    intro L s4 w4 FE FS M4
    cases st with
    | false => cases kept with
      | false => exact phE_nn a0 a1 a2 a3 a4 a5 a6 true a8 w w4 w.heap.size R s4 r pc1 pu1 L h6 FE M4 fun s5 w5 M5 => phF_s a0 a1 a2 a3 a4 a5 a6 a8 w w5 w.heap.size R s5 r false false pc1 pu1 L FE FS M5 hR
      | true => exact phE_nk a0 a1 a2 a3 a4 a5 a6 true a8 w w4 w.heap.size R s4 r pc1 pu1 L h6 FE M4 fun s5 w5 M5 => phF_s a0 a1 a2 a3 a4 a5 a6 a8 w w5 w.heap.size R s5 r false true pc1 pu1 L FE FS M5 hR
    | true => cases kept with
      | false => exact phE_sn a0 a1 a2 a3 a4 a5 a6 true a8 w w4 w.heap.size R s4 r pc1 pu1 L h6 FE M4 fun s5 w5 M5 => phF_s a0 a1 a2 a3 a4 a5 a6 a8 w w5 w.heap.size R s5 r true false pc1 pu1 L FE FS M5 hR
      | true => exact phE_sk a0 a1 a2 a3 a4 a5 a6 true a8 w w4 w.heap.size R s4 r pc1 pu1 L h6 FE M4 fun s5 w5 M5 => phF_s a0 a1 a2 a3 a4 a5 a6 a8 w w5 w.heap.size R s5 r true true pc1 pu1 L FE FS M5 hR
end Go.Proofs.Ybulkdufc
