/-
  'zzs6039amk', 'zzs6039aless', 'zzs6039asame': what they answer.
-/
import Derived.Test.YbulkduauEv
namespace Go.Proofs.Ybulkduau
open Go.RowKit Go.Split
open Extern.Stop (cell)
theorem size5 : (Yba.prog.info? 5).map (·.size) = some 1 := by kernel_rfl
theorem size25 : (Yba.prog.info? 25).map (·.size) = some 3 := by kernel_rfl
theorem zero30 : (Yba.prog.info? 30).map (·.zero) = some (some (.agg (kc (List.replicate 20 0)))) := by kernel_rfl
/-- The plain cells of a drawn event. -/
def pc (t s u : Int) : Array Value := #[.int .i64 t, .int .u64 s, .int .u8 u]

/-- u ^ 0x5a, as the model reckons it. -/
def xr (u : UInt8) : UInt8 := UInt8.ofNat (BitVec.ofInt 8 u.toNat ^^^ BitVec.ofInt 8 90).toNat
theorem xor_run (u : UInt8) (w : World) : (binOp .xor 5 (.int .u8 u.toNat) (.int .u8 90)).run Yba.prog w = .ok (cell (xr u)) w := by
  have h : (BitVec.ofInt 8 (u.toNat : Int) ^^^ BitVec.ofInt 8 90).toNat < 256 := BitVec.isLt _
  have e : IntKind.u8.wrap ((BitVec.ofInt 8 (u.toNat : Int) ^^^ BitVec.ofInt 8 90).toNat : Int) = ((BitVec.ofInt 8 (u.toNat : Int) ^^^ BitVec.ofInt 8 90).toNat : Int) := by
    have e1 : ∀ n : Int, IntKind.u8.wrap n = n % 256 := fun _ => rfl
    rw [e1]; omega
  show Result.ok (Value.int .u8 (IntKind.u8.wrap ((BitVec.ofInt 8 (u.toNat : Int) ^^^ BitVec.ofInt 8 90).toNat : Int))) w = _
  rw [e]
  unfold cell xr
  congr 2
  rw [UInt8.toNat_ofNat', Nat.mod_eq_of_lt h]
  rfl
theorem guard_xor (x y : Operand) (vx vy : Value) (w : World) : (eqGuard .xor 5 x y vx vy).run Yba.prog w = .ok () w := by simp [eqGuard]
def idOf (u : UInt8) : List UInt8 := u :: (List.replicate 18 0 ++ [xr u])
theorem idOf_length (u : UInt8) : (idOf u).length = 20 := by simp [idOf]
theorem idOf_cells (u : UInt8) : ((kc (List.replicate 20 0)).setIfInBounds 0 (cell u)).setIfInBounds 19 (cell (xr u)) = kc (idOf u) := by
  unfold kc idOf
  rfl
theorem built34 (e : Ev) (h : e.to.length = 20) : Yba.prog.built 34 [(0, .int .i64 e.t), (1, .int .u64 e.s), (4, .agg (kc e.to))] = some (ec e) := by
  obtain ⟨t, s, to⟩ := e
  simp only at h
  obtain ⟨a0, a1, a2, a3, a4, a5, a6, a7, a8, a9, a10, a11, a12, a13, a14, a15, a16, a17, a18, a19, rfl⟩ := list20 to h
  kernel_rfl

section
variable {ops : Array Oper} {rest : List Oper} {op : Oper} {a : Act} {w : World} {Q : Exit → Act → World → Prop} {P : Program}
theorem wl_bin (hw : Region.wanted op (yielded ops a.tmps) = true) (o : BinOp) (t : TypeId) (x y : Operand) (t2 : TypeId) (ho : op.op = .binOp o t x y t2) (vx vy v : Value) (hx : a.eval x = vx) (hy : a.eval y = vy)
    (hg : (eqGuard o t x y vx vy).run P w = .ok () w) (hrun : (binOp o t vx vy).run P w = .ok v w) (h : wpList P ops Q rest (a.put op.dst v) w) : wpList P ops Q (op :: rest) a w := by
  refine unguard hw (wpList_plain rfl fun K hK => ?_)
  unfold Oper.wp
  simp only [execOp, ho, hx, hy, Sem.run_bind, hg, Result.andThen_ok, hrun, Sem.run_pure]
  exact hK _ _ h
end

set_option maxRecDepth 100000 in
set_option maxHeartbeats 400000 in
theorem mk_any (w : World) (t s : Int) (u : UInt8) (N : Nat) (hN : w.heap.size = N) :
    Calls Yba.prog 7 #[.agg (pc t s u.toNat)] w fun e w1 => e = .returned (.agg (ec ⟨t, s, idOf u⟩)) ∧ w1.heap.size = N + 3 ∧ Below N w w1 := by
  go_enter Yba.func7, Yba.ntmps7
  go_wp2_with (first
    | (refine at_op (.box 25 (.tmp 0)) rfl ?_; refine wl_box rfl 25 (.tmp 0) rfl (.agg (pc t s u.toNat)) rfl N hN ?_; intro w1 u1)
    | (refine at_op (.alloc 34) rfl ?_; refine wl_alloc rfl 34 rfl _ zero34 (N + 1) (u1.size_new hN) ?_; intro w2 u2)
    | (refine at_op (.alloc 30) rfl ?_; refine wl_alloc rfl 30 rfl _ zero30 (N + 2) (u2.size_new (u1.size_new hN)) ?_; intro w3 u3)
    | (refine at_op (.load 5 (.tmp 4)) rfl ?_; refine wl_load1 rfl 5 (.tmp 4) rfl N 2 (pc t s u.toNat) 25 (0, 0) (.int .u8 u.toNat) rfl (by exact u3.keep (by omega) (u2.keep (by omega) u1.here)) rfl _ Yba.underlying5 rfl ?_)
    | (refine at_op (.store 5 (.tmp 6) (.tmp 5)) rfl ?_; refine wl_store1 rfl 5 (.tmp 6) (.tmp 5) rfl (N + 2) 0 (cell u) (kc (List.replicate 20 0)) 30 rfl rfl u3.here (by rw [kc_size]; decide) size5 rfl ?_; intro w4 u4)
    | (refine at_op (.load 5 (.tmp 7)) rfl ?_; refine wl_load1 rfl 5 (.tmp 7) rfl N 2 (pc t s u.toNat) 25 (0, 0) (.int .u8 u.toNat) rfl (by exact u4.keep (by omega) (u3.keep (by omega) (u2.keep (by omega) u1.here))) rfl _ Yba.underlying5 rfl ?_)
    | (refine at_op (.binOp .xor 5 (.tmp 8) (.const (.int .u8 90)) 5) rfl ?_; refine wl_bin rfl .xor 5 (.tmp 8) (.const (.int .u8 90)) 5 rfl (.int .u8 u.toNat) (.int .u8 90) (cell (xr u)) rfl rfl (guard_xor _ _ _ _ _) (xor_run u _) ?_)
    | (refine at_op (.store 5 (.tmp 10) (.tmp 9)) rfl ?_; refine wl_store1 rfl 5 (.tmp 10) (.tmp 9) rfl (N + 2) 19 (cell (xr u)) ((kc (List.replicate 20 0)).setIfInBounds 0 (cell u)) 30 rfl rfl u4.here (by simp [kc_size]) size5 rfl ?_; intro w5 u5; rw [idOf_cells] at u5)
    | (refine at_op (.load 2 (.tmp 11)) rfl ?_; refine wl_load1 rfl 2 (.tmp 11) rfl N 0 (pc t s u.toNat) 25 (0, 0) (.int .i64 t) rfl (by exact u5.keep (by omega) (u4.keep (by omega) (u3.keep (by omega) (u2.keep (by omega) u1.here)))) rfl _ Yba.underlying2 rfl ?_)
    | (refine at_op (.load 23 (.tmp 13)) rfl ?_; refine wl_load1 rfl 23 (.tmp 13) rfl N 1 (pc t s u.toNat) 25 (0, 0) (.int .u64 s) rfl (by exact u5.keep (by omega) (u4.keep (by omega) (u3.keep (by omega) (u2.keep (by omega) u1.here)))) rfl _ Yba.underlying23 rfl ?_)
    | (refine at_op (.load 30 (.tmp 3)) rfl ?_; refine wl_load_agg rfl 30 (.tmp 3) rfl (N + 2) 0 20 (kc (idOf u)) 30 (0, 0) rfl u5.here (by rw [kc_size, idOf_length]; decide) _ Yba.underlying30 rfl size30 ?_; rw [kc_all _ (idOf_length u)])
    | (refine at_op (.build 34 #[(0, .tmp 12), (1, .tmp 14), (4, .tmp 15)]) rfl ?_; refine wl_build rfl 34 #[(0, .tmp 12), (1, .tmp 14), (4, .tmp 15)] rfl [(0, .int .i64 t), (1, .int .u64 s), (4, .agg (kc (idOf u)))] (ec ⟨t, s, idOf u⟩) rfl (built34 ⟨t, s, idOf u⟩ (idOf_length u)) ?_)
    | (refine at_op (.store 34 (.tmp 2) (.tmp 16)) rfl ?_; refine wl_store_row rfl 34 (.tmp 2) (.tmp 16) rfl (N + 1) (ec ⟨t, s, idOf u⟩) (ec z0) 34 rfl rfl (by exact u5.keep (by omega) (u4.keep (by omega) (u3.keep (by omega) u2.here))) (by rw [ec_size (idOf_length u), ec_size (e := z0) rfl]) (by rw [size34, ec_size (idOf_length u)]) (ec_one _) ?_; intro w6 u6))
  refine bodyPost_ret (v := .agg (ec ⟨t, s, idOf u⟩)) ?_ rfl ⟨rfl, ?_, ?_⟩
  · exact results_cell_row (fn := Yba.f7) rfl _ w6 (N + 1) 34 (ec ⟨t, s, idOf u⟩) (0, 0) _ rfl u6.here Yba.underlying34 rfl (by rw [size34, ec_size (idOf_length u)])
  · have := u1.size; have := u2.size; have := u3.size; have := u4.size; have := u5.size; have := u6.size; omega
  · exact (((((u1.below (by omega)).trans (u2.below (by omega))).trans (u3.below (by omega))).trans (u4.below (by omega))).trans (u5.below (by omega))).trans (u6.below (by omega))
end Go.Proofs.Ybulkduau
