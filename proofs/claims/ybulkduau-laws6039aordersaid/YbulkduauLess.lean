/-
  'zzs6039aless', 'zzs6039asame', '(*event).before': what they answer.
-/
import Derived.Test.YbulkduauMk
namespace Go.Proofs.Ybulkduau
open Go.RowKit Go.Split
open Extern.Stop (cell)

theorem due_ne {e f : Ev} (h : (e.t != f.t) = true) : due e f = decide (e.t < f.t) := by
  have : e.t ≠ f.t := by simpa using h
  simp [due, this]
theorem due_eq {e f : Ev} (h : (e.t != f.t) = false) : due e f = decide (e.s < f.s) := by
  have : e.t = f.t := by simpa using h
  simp [due, this]

/-- The cells that the comparisons read. -/
structure ECells (w : World) (b : Nat) (o : Nat) (e : Ev) : Prop where
  t : w.cell? ⟨b, o, none⟩ = some (.int .i64 e.t)
  s : w.cell? ⟨b, o + 1, none⟩ = some (.int .u64 e.s)
theorem ecells0 {w : World} {b : Nat} {e : Ev} {ty : TypeId} {fr : Nat × Nat} (h : w.heap[b]? = some (.cells (ec e) ty fr)) : ECells w b 0 e :=
  ⟨(cell_of_row w b 0 _ _ _ h).trans (ec_t e), (cell_of_row w b (0 + 1) _ _ _ h).trans (ec_s e)⟩

set_option maxRecDepth 100000 in
set_option maxHeartbeats 400000 in
theorem less_any (w : World) (e f : Ev) (N : Nat) (hN : w.heap.size = N) :
    Calls Yba.prog 8 #[.agg (ec e), .agg (ec f)] w fun r w1 => r = .returned (.bool (due e f)) ∧ w1.heap.size = N + 2 ∧ Below N w w1 := by
  by_cases hne : (e.t != f.t) = true
  · rw [due_ne hne]
    go_enter Yba.func8, Yba.ntmps8
    go_wp2_with (first
      | (refine at_op (.box 34 (.tmp 0)) rfl ?_; refine wl_box rfl 34 (.tmp 0) rfl (.agg (ec e)) rfl N hN ?_; intro w1 u1)
      | (refine at_op (.box 34 (.tmp 1)) rfl ?_; refine wl_box rfl 34 (.tmp 1) rfl (.agg (ec f)) rfl (N + 1) (u1.size_new hN) ?_; intro w2 u2; obtain ⟨c1, c2⟩ := ecells0 (u2.keep (k := N) (by omega) u1.here); obtain ⟨c3, c4⟩ := ecells0 u2.here; simp only [Nat.zero_add] at c2 c4))
    go_ret
    exact ⟨rfl, u2.size_new (u1.size_new hN), (u1.below (by omega)).trans (u2.below (by omega))⟩
  · have hne : (e.t != f.t) = false := by simpa using hne
    rw [due_eq hne]
    go_enter Yba.func8, Yba.ntmps8
    go_wp2_with (first
      | (refine at_op (.box 34 (.tmp 0)) rfl ?_; refine wl_box rfl 34 (.tmp 0) rfl (.agg (ec e)) rfl N hN ?_; intro w1 u1)
      | (refine at_op (.box 34 (.tmp 1)) rfl ?_; refine wl_box rfl 34 (.tmp 1) rfl (.agg (ec f)) rfl (N + 1) (u1.size_new hN) ?_; intro w2 u2; obtain ⟨c1, c2⟩ := ecells0 (u2.keep (k := N) (by omega) u1.here); obtain ⟨c3, c4⟩ := ecells0 u2.here; simp only [Nat.zero_add] at c2 c4))
    go_ret
    exact ⟨rfl, u2.size_new (u1.size_new hN), (u1.below (by omega)).trans (u2.below (by omega))⟩

theorem eql_func (w : World) : (binOp .eql 1 .nilFunc .nilFunc).run Yba.prog w = .ok (.bool true) w := by kernel_rfl
theorem guard_func (x y : Operand) (w : World) : (eqGuard .eql 1 x y .nilFunc .nilFunc).run Yba.prog w = .ok () w := by simp [eqGuard]
theorem eql_iface (w : World) : (binOp .eql 32 .nilIface .nilIface).run Yba.prog w = .ok (.bool true) w := by kernel_rfl

set_option maxRecDepth 100000 in
set_option maxHeartbeats 1000000 in
theorem same_any (w : World) (e : Ev) (he : e.to.length = 20) (N : Nat) (hN : w.heap.size = N) :
    Calls Yba.prog 10 #[.agg (ec e), .agg (ec e)] w fun r w1 => r = .returned (.bool true) ∧ w1.heap.size = N + 2 ∧ Below N w w1 := by
  have hf := eql_func
  have hi := eql_iface
  have heq := eq_key e.to he
  have hgd := guard30
  go_enter Yba.func10, Yba.ntmps10
  go_wp2_with (first
    | (refine at_op (.box 34 (.tmp 0)) rfl ?_; refine wl_box rfl 34 (.tmp 0) rfl (.agg (ec e)) rfl N hN ?_; intro w1 u1)
    | (refine at_op (.box 34 (.tmp 1)) rfl ?_; refine wl_box rfl 34 (.tmp 1) rfl (.agg (ec e)) rfl (N + 1) (u1.size_new hN) ?_; intro w2 u2; obtain ⟨c1, c2⟩ := ecells0 (u2.keep (k := N) (by omega) u1.here); obtain ⟨c3, c4⟩ := ecells0 u2.here; simp only [Nat.zero_add] at c2 c4; have d1 := (cell_of_row w2 N 2 _ _ _ (u2.keep (by omega) u1.here)).trans (ec_do e); have d2 := (cell_of_row w2 N 3 _ _ _ (u2.keep (by omega) u1.here)).trans (ec_from e); have d3 := (cell_of_row w2 N 24 _ _ _ (u2.keep (by omega) u1.here)).trans (ec_m he))
    | (refine unguard rfl ?_; refine at_op (.load 30 (.tmp 18)) rfl ?_; refine wl_load_agg rfl 30 (.tmp 18) rfl N 4 20 (ec e) 34 (0, 0) rfl (by exact u2.keep (by omega) u1.here) (by rw [ec_size he]; decide) _ Yba.underlying30 rfl size30 ?_; rw [ec_to he])
    | (refine unguard rfl ?_; refine at_op (.load 30 (.tmp 20)) rfl ?_; refine wl_load_agg rfl 30 (.tmp 20) rfl (N + 1) 4 20 (ec e) 34 (0, 0) rfl u2.here (by rw [ec_size he]; decide) _ Yba.underlying30 rfl size30 ?_; rw [ec_to he]))
  go_ret
  exact ⟨rfl, u2.size_new (u1.size_new hN), (u1.below (by omega)).trans (u2.below (by omega))⟩

set_option maxRecDepth 100000 in
set_option maxHeartbeats 1000000 in
theorem before_any (w : World) (e f : Ev) (b1 o1 b2 o2 : Nat) (h1 : ECells w b1 o1 e) (h2 : ECells w b2 o2 f) :
    Calls Yba.prog 14 #[.pointer (some ⟨b1, o1, none⟩), .pointer (some ⟨b2, o2, none⟩)] w fun r w1 => r = .returned (.bool (due e f)) ∧ ∃ n, w1 = w.drewN n := by
  obtain ⟨c1, c2⟩ := h1
  obtain ⟨c3, c4⟩ := h2
  by_cases hlt : e.t < f.t
  · have hd : decide (e.t < f.t) = true := by simpa using hlt
    have hdue : due e f = true := by rw [due_iff]; exact .inl hlt
    rw [hdue]
    go_enter Yba.func14, Yba.ntmps14
    go_wp2
    go_quiet (fail)
    go_wp2
    go_ret
    exact ⟨rfl, nq, rfl⟩
  · by_cases he : e.t = f.t
    · have hdue : due e f = decide (e.s < f.s) := by simp [due, he]
      rw [hdue]
      clear hdue hlt
      have hd : decide (e.t < f.t) = false := by simp; omega
      have hq : (e.t == f.t) = true := by simpa using he
      clear he
      go_enter Yba.func14, Yba.ntmps14
      go_wp2
      go_quiet (fail)
      go_wp2
      go_ret
      exact ⟨rfl, nq, rfl⟩
    · have hdue : due e f = false := by rw [due_false]; omega
      rw [hdue]
      have hd : decide (e.t < f.t) = false := by simp; omega
      have hq : (e.t == f.t) = false := by simpa using he
      clear hdue hlt he
      go_enter Yba.func14, Yba.ntmps14
      go_wp2
      go_quiet (fail)
      go_wp2
      go_ret
      exact ⟨rfl, nq, rfl⟩
end Go.Proofs.Ybulkduau
