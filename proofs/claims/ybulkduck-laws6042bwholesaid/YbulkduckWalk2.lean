/-
  'risoku.LawS6042BWhole', walked: the method, the law.
-/
import Derived.Test.YbulkduckWalk
namespace Go.Proofs.Ybulkduck
open Go.RowKit
theorem gtr_run (lo : Int) (b : Bool) (h : decide (9223372036854775807 < lo) = b) (w : World) : (binOp .gtr 22 (.int .u64 lo) (.int .u64 9223372036854775807)).run Yba.prog w = .ok (.bool b) w := by
  subst h
  simp [binOp, Op.intCmp]
theorem guard_gtr (x y : Operand) (vx vy : Value) (w : World) : (eqGuard .gtr 22 x y vx vy).run Yba.prog w = .ok () w := by
  simp [eqGuard]
theorem guard_shr (x y : Operand) (vx vy : Value) (w : World) : (eqGuard .shr 22 x y vx vy).run Yba.prog w = .ok () w := by
  simp [eqGuard]
theorem guard_add (x y : Operand) (vx vy : Value) (w : World) : (eqGuard .add 22 x y vx vy).run Yba.prog w = .ok () w := by
  simp [eqGuard]
theorem shr_run (lo : Int) (w : World) : (binOp .shr 22 (.int .u64 lo) (.int .u64 63)).run Yba.prog w = .ok (.int .u64 (lo / 9223372036854775808)) w := by
  have e : Int.fdiv lo (2 ^ (min (Int.toNat 63) IntKind.u64.bits)) = lo / 9223372036854775808 := by
    rw [Int.fdiv_eq_ediv_of_nonneg _ (by decide)]; rfl
  have e1 : (binOp .shr 22 (.int .u64 lo) (.int .u64 63)) = Op.shift .shr .u64 lo .u64 63 := rfl
  rw [e1]
  unfold Op.shift
  rw [if_neg (by decide)]
  show Result.ok _ _ = _
  rw [e]
theorem wrap_u64 (n : Int) (h0 : 0 ≤ n) (h : n ≤ 18446744073709551615) : IntKind.u64.wrap n = n := by
  have e : IntKind.u64.wrap n = n % 18446744073709551616 := rfl
  rw [e]; omega
theorem wrap_u64_bd (n : Int) : 0 ≤ IntKind.u64.wrap n ∧ IntKind.u64.wrap n ≤ 18446744073709551615 := by
  have e : IntKind.u64.wrap n = n % 18446744073709551616 := rfl
  rw [e]; omega
theorem conv_i (lo : Int) (h0 : 0 ≤ lo) (h : lo ≤ 9223372036854775807) (w : World) : (convert 22 2 (.int .u64 lo)).run Yba.prog w = .ok (.int .i64 lo) w := by
  have : IntKind.i64.wrap lo = lo := by rw [IntKind.wrap_i64]; omega
  simp [convert, run_underlying Yba.underlying22, run_underlying Yba.underlying2, Conv.intToInt, this]
theorem conv_u (lo : Int) (h0 : 0 ≤ lo) (h : lo ≤ 9223372036854775807) (w : World) : (convert 2 22 (.int .i64 lo)).run Yba.prog w = .ok (.int .u64 lo) w := by
  have : IntKind.u64.wrap lo = lo := wrap_u64 lo h0 (by omega)
  simp [convert, run_underlying Yba.underlying22, run_underlying Yba.underlying2, Conv.intToInt, this]
theorem add_run (lo : Int) (w : World) : (binOp .add 22 (.int .u64 lo) (.int .u64 9223372036854775806)).run Yba.prog w = .ok (.int .u64 (IntKind.u64.wrap (lo + 9223372036854775806))) w := rfl

set_option maxRecDepth 100000 in
set_option maxHeartbeats 400000 in
/-- int64 refuses. -/
theorem int64_no (w : World) (hi lo : Int) (p : Option Addr) (N : Nat) (hN : w.heap.size = N) (h : p.isNone = false ∨ (p = .none ∧ (hi != 0) = true) ∨ (p = .none ∧ (hi != 0) = false ∧ decide (9223372036854775807 < lo) = true)) :
    Calls Yba.prog 5 #[.agg #[.int .u64 hi, .int .u64 lo, .pointer p]] w fun e w1 => e = .returned (.tuple #[.int .i64 0, .bool false]) ∧ Upd w w1 N (.cells #[.int .u64 hi, .int .u64 lo, .pointer p] 30 (0, 0)) := by
  rcases h with h | ⟨rfl, h⟩ | ⟨rfl, h, h2⟩
  · go_enter Yba.func5, Yba.ntmps5
    go_wp2_with (first
      | (refine at_op (.box 30 (.tmp 0)) rfl ?_; refine wl_box rfl 30 (.tmp 0) rfl (.agg #[.int .u64 hi, .int .u64 lo, .pointer p]) rfl N hN ?_; intro w1 u1; have c0 := (cell_of_row w1 N 0 _ _ _ u1.here).trans (rfl : _ = some (Value.int .u64 hi)); have c1 := (cell_of_row w1 N 1 _ _ _ u1.here).trans (rfl : _ = some (Value.int .u64 lo)); have c2 := (cell_of_row w1 N 2 _ _ _ u1.here).trans (rfl : _ = some (Value.pointer p))))
    go_ret2
    exact ⟨rfl, u1⟩
  · go_enter Yba.func5, Yba.ntmps5
    go_wp2_with (first
      | (refine at_op (.box 30 (.tmp 0)) rfl ?_; refine wl_box rfl 30 (.tmp 0) rfl (.agg #[.int .u64 hi, .int .u64 lo, .pointer .none]) rfl N hN ?_; intro w1 u1; have c0 := (cell_of_row w1 N 0 _ _ _ u1.here).trans (rfl : _ = some (Value.int .u64 hi)); have c1 := (cell_of_row w1 N 1 _ _ _ u1.here).trans (rfl : _ = some (Value.int .u64 lo)); have c2 := (cell_of_row w1 N 2 _ _ _ u1.here).trans (rfl : _ = some (Value.pointer .none))))
    go_ret2
    exact ⟨rfl, u1⟩
  · have H2 : Hid (decide (9223372036854775807 < lo) = true) := h2
    clear h2
    go_enter Yba.func5, Yba.ntmps5
    go_wp2_with (first
      | (refine at_op (.box 30 (.tmp 0)) rfl ?_; refine wl_box rfl 30 (.tmp 0) rfl (.agg #[.int .u64 hi, .int .u64 lo, .pointer .none]) rfl N hN ?_; intro w1 u1; have c0 := (cell_of_row w1 N 0 _ _ _ u1.here).trans (rfl : _ = some (Value.int .u64 hi)); have c1 := (cell_of_row w1 N 1 _ _ _ u1.here).trans (rfl : _ = some (Value.int .u64 lo)); have c2 := (cell_of_row w1 N 2 _ _ _ u1.here).trans (rfl : _ = some (Value.pointer .none)))
      | (refine at_op (.binOp .gtr 22 (.tmp 14) (.const (.int .u64 9223372036854775807)) 22) rfl ?_; refine wl_bin rfl .gtr 22 (.tmp 14) (.const (.int .u64 9223372036854775807)) 22 rfl (.int .u64 lo) (.int .u64 9223372036854775807) (.bool true) rfl rfl (guard_gtr _ _ _ _ _) (gtr_run lo true H2.out _) ?_))
    go_ret2
    exact ⟨rfl, u1⟩

set_option maxRecDepth 100000 in
set_option maxHeartbeats 400000 in
/-- int64 gives the low word. -/
theorem int64_yes (w : World) (hi lo : Int) (N : Nat) (hN : w.heap.size = N) (h : (hi != 0) = false) (h0 : 0 ≤ lo) (H2 : Hid (lo ≤ 9223372036854775807)) :
    Calls Yba.prog 5 #[.agg #[.int .u64 hi, .int .u64 lo, .pointer .none]] w fun e w1 => e = .returned (.tuple #[.int .i64 lo, .bool true]) ∧ Upd w w1 N (.cells #[.int .u64 hi, .int .u64 lo, .pointer .none] 30 (0, 0)) := by
  go_enter Yba.func5, Yba.ntmps5
  go_wp2_with (first
    | (refine at_op (.box 30 (.tmp 0)) rfl ?_; refine wl_box rfl 30 (.tmp 0) rfl (.agg #[.int .u64 hi, .int .u64 lo, .pointer .none]) rfl N hN ?_; intro w1 u1; have c0 := (cell_of_row w1 N 0 _ _ _ u1.here).trans (rfl : _ = some (Value.int .u64 hi)); have c1 := (cell_of_row w1 N 1 _ _ _ u1.here).trans (rfl : _ = some (Value.int .u64 lo)); have c2 := (cell_of_row w1 N 2 _ _ _ u1.here).trans (rfl : _ = some (Value.pointer .none)))
    | (refine at_op (.binOp .gtr 22 (.tmp 14) (.const (.int .u64 9223372036854775807)) 22) rfl ?_; refine wl_bin rfl .gtr 22 (.tmp 14) (.const (.int .u64 9223372036854775807)) 22 rfl (.int .u64 lo) (.int .u64 9223372036854775807) (.bool false) rfl rfl (guard_gtr _ _ _ _ _) (gtr_run lo false (by have := H2.out; simp; omega) _) ?_)
    | (refine at_op (.convert 22 2 (.tmp 18)) rfl ?_; refine wl_conv rfl 22 2 (.tmp 18) rfl (.int .u64 lo) (.int .i64 lo) rfl (conv_i lo h0 H2.out _) ?_))
  go_ret2
  exact ⟨rfl, u1⟩
end Go.Proofs.Ybulkduck
