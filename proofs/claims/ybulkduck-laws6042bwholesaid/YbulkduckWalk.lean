/-
  'risoku.LawS6042BWhole', walked.
-/
import Derived.Test.YbulkduckLib
namespace Go.Proofs.Ybulkduck
open Go.RowKit
theorem info36 : (Yba.prog.info? 36).map (fun i => (i.zero, i.size, i.bytes)) = some (some (.int .u64 0), 1, 8) := by kernel_rfl
theorem size36 : (Yba.prog.info? 36).map (·.size) = some 1 := by kernel_rfl
theorem size25 : (Yba.prog.info? 25).map (·.size) = some 1 := by kernel_rfl
theorem size4 : (Yba.prog.info? 4).map (·.size) = some 1 := by kernel_rfl
theorem size30 : (Yba.prog.info? 30).map (·.size) = some 3 := by kernel_rfl
theorem zero27 : (Yba.prog.info? 27).map (·.zero) = some (some (.agg #[.bool false, .slice .none 0 0])) := by kernel_rfl
theorem zero30 : (Yba.prog.info? 30).map (·.zero) = some (some (.agg #[.int .u64 0, .int .u64 0, .pointer .none])) := by kernel_rfl

set_option maxRecDepth 100000 in
set_option maxHeartbeats 400000 in
theorem make1 (w : World) (N : Nat) (hN : w.heap.size = N) :
    Calls Yba.prog 14 #[.slice .none 0 0, .int .i64 1] w fun e w1 => e = .returned (.slice (some ⟨N, 0, none⟩) 1 1) ∧ ∃ C : Array Value, C.size = 1 ∧ Upd w w1 N (.cells C 36 (0, 0)) := by
  go_enter Yba.func14, Yba.ntmps14
  go_wp2_with (first
    | (refine at_op (.makeSlice 25 (.const (.int .i64 1)) (.const (.int .i64 1))) rfl ?_; refine wl_make rfl (.const (.int .i64 1)) (.const (.int .i64 1)) 25 rfl 36 (.int .u64 0) 1 8 Yba.underlying25 info36 .i64 .i64 1 rfl rfl (by omega) (by decide) N hN ?_; intro w1 u1))
  go_ret
  exact ⟨rfl, _, by simp [size_madeCells], u1⟩

set_option maxRecDepth 100000 in
set_option maxHeartbeats 400000 in
theorem setWord_any (w : World) (N : Nat) (x : Int) (hN : w.heap.size = N) :
    Calls Yba.prog 13 #[.slice .none 0 0, .int .u64 x] w fun e w1 => (∃ ad n, e = .returned (.slice ad n n)) ∧ Below N w w1 := by
  by_cases hx : x = 0
  · have hb : (x == 0) = true := by simp [hx]
    clear hx
    go_enter Yba.func13, Yba.ntmps13
    go_wp2
    go_ret
    exact ⟨⟨.none, 0, rfl⟩, Below.refl _ _⟩
  · have hb : (x == 0) = false := by simp [hx]
    clear hx
    go_enter Yba.func13, Yba.ntmps13
    go_wp2_with (first
      | (go_at_call 14; refine (make1 _ N hN).mono ?_; rintro _ w1 ⟨rfl, C, hC, u1⟩)
      | (refine at_op (.store 36 (.tmp 13) (.tmp 12)) rfl ?_; refine wl_store1 rfl 36 (.tmp 13) (.tmp 12) rfl N 0 (.int .u64 x) C 36 rfl rfl u1.here (by omega) size36 rfl ?_; intro w2 u2))
    go_ret
    exact ⟨⟨_, _, rfl⟩, (u1.below (by omega)).trans (u2.below (by omega))⟩

set_option maxRecDepth 100000 in
set_option maxHeartbeats 400000 in
theorem setU_any (w : World) (N : Nat) (x : Int) (hN : w.heap.size = N) :
    Calls Yba.prog 12 #[.slice .none 0 0, .int .u64 x] w fun e w1 => (∃ ad n, e = .returned (.slice ad n n)) ∧ Below N w w1 := by
  go_enter Yba.func12, Yba.ntmps12
  go_wp2_with (first
    | (go_at_call 13; refine (setWord_any _ N x hN).mono ?_; rintro _ w1 ⟨⟨ad, n, rfl⟩, b1⟩))
  go_ret
  exact ⟨⟨_, _, rfl⟩, b1⟩

set_option maxRecDepth 100000 in
set_option maxHeartbeats 400000 in
theorem setUint64_any (w : World) (N Z : Nat) (x : Int) (hN : w.heap.size = N) (hZ : w.heap[Z]? = some (.cells #[.bool false, .slice .none 0 0] 27 (0, 0))) :
    Calls Yba.prog 4 #[.pointer (some ⟨Z, 0, none⟩), .int .u64 x] w fun e w1 => e = .returned (.pointer (some ⟨Z, 0, none⟩)) ∧ Below Z w w1 := by
  have lZ : Z < N := hN ▸ lt_of_heap hZ
  have hc : w.cell? ⟨Z, 1, none⟩ = some (.slice .none 0 0) := by rw [cell_of_row w Z 1 _ _ _ hZ]; rfl
  go_enter Yba.func4, Yba.ntmps4
  go_wp2_with (first
    | (go_at_call 12; refine (setU_any _ N x hN).mono ?_; rintro _ w1 ⟨⟨ad, n, rfl⟩, b1⟩)
    | (refine at_op (.store 25 (.tmp 13) (.tmp 11)) rfl ?_; refine wl_store1 rfl 25 (.tmp 13) (.tmp 11) rfl Z 1 (.slice ad n n) #[.bool false, .slice .none 0 0] 27 rfl rfl (by exact (b1.block Z lZ).trans hZ) (by simp) size25 rfl ?_; intro w2 u2)
    | (refine at_op (.store 4 (.tmp 16) (.const (.bool false))) rfl ?_; refine wl_store1 rfl 4 (.tmp 16) (.const (.bool false)) rfl Z 0 (.bool false) _ 27 rfl rfl u2.here (by simp) size4 rfl ?_; intro w3 u3))
  go_ret
  exact ⟨rfl, ((b1.mono (by omega)).trans (u2.below (Nat.le_refl _))).trans (u3.below (Nat.le_refl _))⟩
end Go.Proofs.Ybulkduck
