/-
  Pointers compared; a lookup in a region that draws and only reads.
-/
import Derived.Test.YbulkdufcEnd
import Derived.LaidEql
namespace Go.Proofs.Ybulkdufc
open Go.RowKit Go.Split
theorem size57 : (Yba.prog.info? 57).map (·.size) = some 34 := by kernel_rfl
theorem under45 : Yba.prog.underlying 45 = some (.pointer 57) := by kernel_rfl
theorem eq45_same (d : Nat) (a : Addr) (w : World) : (Op.equalIn (d + 1) 45 (.pointer (some a)) (.pointer (some a))).run Yba.prog w = .ok true w := by
  obtain ⟨inf, hinf, _⟩ := Option.map_eq_some_iff.1 size57
  rw [Op.equalIn]
  simp [run_underlying under45, sizeOf, typeInfo, hinf, sameAddr, Result.andThen]
theorem eq45_diff (d : Nat) {a b : Addr} {ca cb : Array Value} {ta tb : TypeId} {w : World} (hne : a ≠ b) (ha : w.heap[a.block]? = some (.cells ca ta (0, 0))) (hb : w.heap[b.block]? = some (.cells cb tb (0, 0))) : (Op.equalIn (d + 1) 45 (.pointer (some a)) (.pointer (some b))).run Yba.prog w = .ok false w := by
  obtain ⟨inf, hinf, hsz⟩ := Option.map_eq_some_iff.1 size57
  rw [Op.equalIn]
  simp [run_underlying under45, sizeOf, typeInfo, hinf, hsz, run_sameAddr_other w hne ha hb, Result.andThen]
theorem eq45_nil (d : Nat) (p : Option Addr) (w : World) : (Op.equalIn (d + 1) 45 (.pointer none) (.pointer p)).run Yba.prog w = .ok p.isNone w := by
  rw [Op.equalIn]
  simp [run_underlying under45]
theorem eq45_nil2 (d : Nat) (a : Addr) (w : World) : (Op.equalIn (d + 1) 45 (.pointer (some a)) (.pointer none)).run Yba.prog w = .ok false w := by
  rw [Op.equalIn]
  simp [run_underlying under45]
theorem eql45 {p q : Option Addr} {b : Bool} {w : World} (h : ∀ d, (Op.equalIn (d + 1) 45 (.pointer p) (.pointer q)).run Yba.prog w = .ok b w) : (binOp .eql 45 (.pointer p) (.pointer q)).run Yba.prog w = .ok (.bool b) w := by
  have e : (binOp .eql 45 (.pointer p) (.pointer q)) = (do return .bool (← Op.equal 45 (.pointer p) (.pointer q))) := rfl
  rw [e]
  simp only [Sem.run_bind, Op.equal, Op.maxDepth, h 9999, Result.andThen_ok]
  rfl
theorem neq45 {p q : Option Addr} {b : Bool} {w : World} (h : ∀ d, (Op.equalIn (d + 1) 45 (.pointer p) (.pointer q)).run Yba.prog w = .ok b w) : (binOp .neq 45 (.pointer p) (.pointer q)).run Yba.prog w = .ok (.bool (!b)) w := by
  have e : (binOp .neq 45 (.pointer p) (.pointer q)) = (do return .bool (!(← Op.equal 45 (.pointer p) (.pointer q)))) := rfl
  rw [e]
  simp only [Sem.run_bind, Op.equal, Op.maxDepth, h 9999, Result.andThen_ok]
  rfl
theorem gd45 (o : BinOp) (x y : Operand) (p q : Option Addr) (w : World) (ho : o = .eql ∨ o = .neq) : (eqGuard o 45 x y (.pointer p) (.pointer q)).run Yba.prog w = .ok () w := by
  rcases ho with rfl | rfl <;> simp [eqGuard]
section
variable {P : Program} {ops : Array Oper} {rest : List Oper} {op : Oper} {a : Act} {w : World}
theorem wq_lookup {R : Act → Prop} (mt : TypeId) (m k : Operand) (ok : Bool) (ho : op.op = .lookup mt m k ok) (hw : Region.wanted op (yielded ops a.tmps) = true) (vm vk v : Value) (hm : a.eval m = vm) (hk : a.eval k = vk)
    (hrun : ∀ n, (Instr.lookup mt vm vk ok).run P (w.drewN n) = .ok v (w.drewN n))
    (h : wpQuiet P ops (fun w' => ∃ n, w' = w.drewN n) R rest (a.put op.dst v)) : wpQuiet P ops (fun w' => ∃ n, w' = w.drewN n) R (op :: rest) a :=
  wq_run _ ho hw v (fun n => by simp only [execOp, ho, hm, hk, Sem.run_bind, hrun n, Result.andThen_ok, Sem.run_pure]) h
theorem wq_bin {R : Act → Prop} (o : BinOp) (t : TypeId) (x y : Operand) (t2 : TypeId) (ho : op.op = .binOp o t x y t2) (hw : Region.wanted op (yielded ops a.tmps) = true) (vx vy v : Value) (hx : a.eval x = vx) (hy : a.eval y = vy)
    (hg : ∀ w, (eqGuard o t x y vx vy).run P w = .ok () w) (hrun : ∀ n, (binOp o t vx vy).run P (w.drewN n) = .ok v (w.drewN n))
    (h : wpQuiet P ops (fun w' => ∃ n, w' = w.drewN n) R rest (a.put op.dst v)) : wpQuiet P ops (fun w' => ∃ n, w' = w.drewN n) R (op :: rest) a :=
  wq_run _ ho hw v (fun n => by simp only [execOp, ho, hx, hy, Sem.run_bind, hg, hrun, Result.andThen_ok, Sem.run_pure]) h
theorem wl_bin {Q : Exit → Act → World → Prop} (hw : Region.wanted op (yielded ops a.tmps) = true) (o : BinOp) (t : TypeId) (x y : Operand) (t2 : TypeId) (ho : op.op = .binOp o t x y t2) (vx vy v : Value) (hx : a.eval x = vx) (hy : a.eval y = vy)
    (hg : (eqGuard o t x y vx vy).run P w = .ok () w) (hrun : (binOp o t vx vy).run P w = .ok v w) (h : wpList P ops Q rest (a.put op.dst v) w) : wpList P ops Q (op :: rest) a w := by
  refine unguard hw (wpList_plain rfl fun K hK => ?_)
  unfold Oper.wp
  simp only [execOp, ho, hx, hy, Sem.run_bind, hg, Result.andThen_ok, hrun, Sem.run_pure]
  exact hK _ _ h
end
end Go.Proofs.Ybulkdufc
