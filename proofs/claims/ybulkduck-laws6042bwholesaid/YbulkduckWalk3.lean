/-
  'risoku.LawS6042BWhole', walked: the law.
-/
import Derived.Test.YbulkduckWalk2
namespace Go.Proofs.Ybulkduck
open Go.RowKit
theorem neq_ptr (a : Addr) (w : World) : (binOp .neq 23 (.pointer (some a)) (.pointer (some a))).run Yba.prog w = .ok (.bool false) w := by
  have hs : (sizeOf 27).run Yba.prog w = .ok 2 w := by kernel_rfl
  have h0 : ∀ d, (Op.equalIn (d + 1) 23 (.pointer (some a)) (.pointer (some a))).run Yba.prog w = .ok true w := fun d => by
    simp [Op.equalIn, run_underlying Yba.underlying23, hs, sameAddr]
  have h1 : (Op.equal 23 (.pointer (some a)) (.pointer (some a))).run Yba.prog w = .ok true w := h0 9999
  simp only [binOp]
  simp [h1]
theorem built30 (hi lo : Int) (p : Option Addr) : Yba.prog.built 30 [(0, .int .u64 hi), (1, .int .u64 lo), (2, .pointer p)] = some #[.int .u64 hi, .int .u64 lo, .pointer p] := by kernel_rfl
theorem all30 (hi lo : Int) (p : Option Addr) : (#[.int .u64 hi, .int .u64 lo, .pointer p] : Array Value).extract 0 (0 + 3) = #[.int .u64 hi, .int .u64 lo, .pointer p] := rfl
theorem one30 (hi lo : Int) (p : Option Addr) : (#[.int .u64 hi, .int .u64 lo, .pointer p] : Array Value).all (·.oneCell') = true := by simp [Value.oneCell']
/-- The cells of x. -/
structure XCells (w : World) (N : Nat) (hi lo : Int) (p : Option Addr) : Prop where
  c0 : w.cell? ⟨N, 0, none⟩ = some (.int .u64 hi)
  c1 : w.cell? ⟨N, 1, none⟩ = some (.int .u64 lo)
  c2 : w.cell? ⟨N, 2, none⟩ = some (.pointer p)
theorem xcells {w : World} {N : Nat} {hi lo : Int} {p : Option Addr} (h : w.heap[N]? = some (.cells #[.int .u64 hi, .int .u64 lo, .pointer p] 30 (0, 0))) : XCells w N hi lo p :=
  ⟨(cell_of_row w N 0 _ _ _ h).trans rfl, (cell_of_row w N 1 _ _ _ h).trans rfl, (cell_of_row w N 2 _ _ _ h).trans rfl⟩

set_option maxRecDepth 100000 in
set_option maxHeartbeats 1000000 in
theorem big_p (w : World) (hi lo bv : Int) :
    Calls Yba.prog 3 #[.int .u64 hi, .int .u64 lo, .bool true, .bool false, .int .u64 bv] w fun e w1 => e = .returned (.bool true) ∧ Below w.heap.size w w1 := by
  obtain ⟨N, hN⟩ : ∃ N, w.heap.size = N := ⟨_, rfl⟩
  rw [hN]
  have hnp := neq_ptr
  go_enter Yba.func3, Yba.ntmps3
  go_wp2_with (first
    | (refine at_op (.alloc 27) rfl ?_; refine wl_alloc rfl 27 rfl _ zero27 N hN ?_; intro w1 u1)
    | (go_at_call 4; refine (setUint64_any _ (N + 1) N bv (u1.size_new hN) u1.here).mono ?_; rintro _ w2 ⟨rfl, b2⟩; obtain ⟨N2, hN2⟩ : ∃ N2, w2.heap.size = N2 := ⟨_, rfl⟩; have hle : N + 1 ≤ N2 := by have := b2.size; have := u1.size; omega)
    | (refine at_op (.build 30 #[(0, .tmp 23), (1, .tmp 24), (2, .tmp 25)]) rfl ?_; refine wl_build rfl 30 #[(0, .tmp 23), (1, .tmp 24), (2, .tmp 25)] rfl [(0, .int .u64 hi), (1, .int .u64 lo), (2, .pointer (some ⟨N, 0, none⟩))] #[.int .u64 hi, .int .u64 lo, .pointer (some ⟨N, 0, none⟩)] rfl (built30 _ _ _) ?_)
    | (refine at_op (.alloc 30) rfl ?_; refine wl_alloc rfl 30 rfl _ zero30 N2 hN2 ?_; intro w3 u3)
    | (refine at_op (.store 30 (.tmp 12) (.tmp 26)) rfl ?_; refine wl_store_row rfl 30 (.tmp 12) (.tmp 26) rfl N2 #[.int .u64 hi, .int .u64 lo, .pointer (some ⟨N, 0, none⟩)] _ 30 rfl rfl u3.here rfl size30 (one30 _ _ _) ?_; intro w4 u4)
    | (refine at_op (.load 30 (.tmp 12)) rfl ?_; refine wl_load_agg rfl 30 (.tmp 12) rfl N2 0 3 #[.int .u64 hi, .int .u64 lo, .pointer (some ⟨N, 0, none⟩)] 30 (0, 0) rfl u4.here (by simp) _ Yba.underlying30 rfl size30 ?_; rw [all30])
    | (go_at_call 5; refine (int64_no _ hi lo (some ⟨N, 0, none⟩) (N2 + 1) (by have := u3.size; have := u4.size; omega) (.inl rfl)).mono ?_; rintro _ w5 ⟨rfl, u5⟩; obtain ⟨c0, c1, c2⟩ := xcells (u5.keep (by omega) u4.here))
)
  go_ret
  exact ⟨rfl, (((((u1.below (by omega)).trans b2).trans (u3.below (by omega))).trans (u4.below (by omega))).trans (u5.below (by omega)))⟩

set_option maxRecDepth 100000 in
set_option maxHeartbeats 1000000 in
theorem hi_p (w : World) (hi lo bv : Int) (h : (hi != 0) = true) (h' : (hi == 0) = false) :
    Calls Yba.prog 3 #[.int .u64 hi, .int .u64 lo, .bool false, .bool false, .int .u64 bv] w fun e w1 => e = .returned (.bool true) ∧ Below w.heap.size w w1 := by
  obtain ⟨N, hN⟩ : ∃ N, w.heap.size = N := ⟨_, rfl⟩
  rw [hN]
  go_enter Yba.func3, Yba.ntmps3
  go_wp2_with (first
    | (refine at_op (.build 30 #[(0, .tmp 23), (1, .tmp 24), (2, .tmp 25)]) rfl ?_; refine wl_build rfl 30 #[(0, .tmp 23), (1, .tmp 24), (2, .tmp 25)] rfl [(0, .int .u64 hi), (1, .int .u64 lo), (2, .pointer .none)] #[.int .u64 hi, .int .u64 lo, .pointer .none] rfl (built30 _ _ _) ?_)
    | (refine at_op (.alloc 30) rfl ?_; refine wl_alloc rfl 30 rfl _ zero30 N hN ?_; intro w3 u3)
    | (refine at_op (.store 30 (.tmp 12) (.tmp 26)) rfl ?_; refine wl_store_row rfl 30 (.tmp 12) (.tmp 26) rfl N #[.int .u64 hi, .int .u64 lo, .pointer .none] _ 30 rfl rfl u3.here rfl size30 (one30 _ _ _) ?_; intro w4 u4)
    | (refine at_op (.load 30 (.tmp 12)) rfl ?_; refine wl_load_agg rfl 30 (.tmp 12) rfl N 0 3 #[.int .u64 hi, .int .u64 lo, .pointer .none] 30 (0, 0) rfl u4.here (by simp) _ Yba.underlying30 rfl size30 ?_; rw [all30])
    | (go_at_call 5; refine (int64_no _ hi lo .none (N + 1) (by have := u3.size; have := u4.size; omega) (.inr (.inl ⟨rfl, h⟩))).mono ?_; rintro _ w5 ⟨rfl, u5⟩; obtain ⟨c0, c1, c2⟩ := xcells (u5.keep (by omega) u4.here))
)
  go_ret
  exact ⟨rfl, (((u3.below (by omega)).trans (u4.below (by omega))).trans (u5.below (by omega)))⟩

set_option maxRecDepth 100000 in
set_option maxHeartbeats 1000000 in
theorem top_p (w : World) (hi lo bv : Int) (h : (hi != 0) = false) (h' : (hi == 0) = true) (H2 : Hid (decide (9223372036854775807 < lo) = true)) (SHR : Hid ((lo / 9223372036854775808 == 0) = false)) :
    Calls Yba.prog 3 #[.int .u64 hi, .int .u64 lo, .bool false, .bool false, .int .u64 bv] w fun e w1 => e = .returned (.bool true) ∧ Below w.heap.size w w1 := by
  obtain ⟨N, hN⟩ : ∃ N, w.heap.size = N := ⟨_, rfl⟩
  rw [hN]
  go_enter Yba.func3, Yba.ntmps3
  go_wp2_with (first
    | (refine at_op (.build 30 #[(0, .tmp 23), (1, .tmp 24), (2, .tmp 25)]) rfl ?_; refine wl_build rfl 30 #[(0, .tmp 23), (1, .tmp 24), (2, .tmp 25)] rfl [(0, .int .u64 hi), (1, .int .u64 lo), (2, .pointer .none)] #[.int .u64 hi, .int .u64 lo, .pointer .none] rfl (built30 _ _ _) ?_)
    | (refine at_op (.alloc 30) rfl ?_; refine wl_alloc rfl 30 rfl _ zero30 N hN ?_; intro w3 u3)
    | (refine at_op (.store 30 (.tmp 12) (.tmp 26)) rfl ?_; refine wl_store_row rfl 30 (.tmp 12) (.tmp 26) rfl N #[.int .u64 hi, .int .u64 lo, .pointer .none] _ 30 rfl rfl u3.here rfl size30 (one30 _ _ _) ?_; intro w4 u4)
    | (refine at_op (.load 30 (.tmp 12)) rfl ?_; refine wl_load_agg rfl 30 (.tmp 12) rfl N 0 3 #[.int .u64 hi, .int .u64 lo, .pointer .none] 30 (0, 0) rfl u4.here (by simp) _ Yba.underlying30 rfl size30 ?_; rw [all30])
    | (go_at_call 5; refine (int64_no _ hi lo .none (N + 1) (by have := u3.size; have := u4.size; omega) (.inr (.inr ⟨rfl, h, H2.out⟩))).mono ?_; rintro _ w5 ⟨rfl, u5⟩; obtain ⟨c0, c1, c2⟩ := xcells (u5.keep (by omega) u4.here))
    | (refine unguard rfl ?_; refine at_op (.binOp .shr 22 (.tmp 55) (.const (.int .u64 63)) 33) rfl ?_; refine wl_bin rfl .shr 22 (.tmp 55) (.const (.int .u64 63)) 33 rfl (.int .u64 lo) (.int .u64 63) (.int .u64 (lo / 9223372036854775808)) rfl rfl (guard_shr _ _ _ _ _) (shr_run lo _) ?_; obtain ⟨q, hq⟩ : ∃ q, q = lo / 9223372036854775808 := ⟨_, rfl⟩; rw [← hq]; have hq0 : (q == 0) = false := (by rw [hq]; exact SHR.out); clear hq)
)
  go_ret
  exact ⟨rfl, (((u3.below (by omega)).trans (u4.below (by omega))).trans (u5.below (by omega)))⟩

set_option maxRecDepth 100000 in
set_option maxHeartbeats 1000000 in
theorem fit_p (w : World) (hi lo bv : Int) (h : (hi != 0) = false) (h' : (hi == 0) = true) (h0 : 0 ≤ lo) (H2 : Hid (lo ≤ 9223372036854775807)) (SHR : Hid ((lo / 9223372036854775808 == 0) = true)) :
    Calls Yba.prog 3 #[.int .u64 hi, .int .u64 lo, .bool false, .bool false, .int .u64 bv] w fun e w1 => e = .returned (.bool true) ∧ Below w.heap.size w w1 := by
  obtain ⟨N, hN⟩ : ∃ N, w.heap.size = N := ⟨_, rfl⟩
  rw [hN]
  go_enter Yba.func3, Yba.ntmps3
  go_wp2_with (first
    | (refine at_op (.build 30 #[(0, .tmp 23), (1, .tmp 24), (2, .tmp 25)]) rfl ?_; refine wl_build rfl 30 #[(0, .tmp 23), (1, .tmp 24), (2, .tmp 25)] rfl [(0, .int .u64 hi), (1, .int .u64 lo), (2, .pointer .none)] #[.int .u64 hi, .int .u64 lo, .pointer .none] rfl (built30 _ _ _) ?_)
    | (refine at_op (.alloc 30) rfl ?_; refine wl_alloc rfl 30 rfl _ zero30 N hN ?_; intro w3 u3)
    | (refine at_op (.store 30 (.tmp 12) (.tmp 26)) rfl ?_; refine wl_store_row rfl 30 (.tmp 12) (.tmp 26) rfl N #[.int .u64 hi, .int .u64 lo, .pointer .none] _ 30 rfl rfl u3.here rfl size30 (one30 _ _ _) ?_; intro w4 u4)
    | (refine at_op (.load 30 (.tmp 12)) rfl ?_; refine wl_load_agg rfl 30 (.tmp 12) rfl N 0 3 #[.int .u64 hi, .int .u64 lo, .pointer .none] 30 (0, 0) rfl u4.here (by simp) _ Yba.underlying30 rfl size30 ?_; rw [all30])
    | (go_at_call 5; refine (int64_yes _ hi lo (N + 1) (by have := u3.size; have := u4.size; omega) h h0 H2).mono ?_; rintro _ w5 ⟨rfl, u5⟩; obtain ⟨c0, c1, c2⟩ := xcells (u5.keep (by omega) u4.here))
    | (refine unguard rfl ?_; refine at_op (.binOp .shr 22 (.tmp 55) (.const (.int .u64 63)) 33) rfl ?_; refine wl_bin rfl .shr 22 (.tmp 55) (.const (.int .u64 63)) 33 rfl (.int .u64 lo) (.int .u64 63) (.int .u64 (lo / 9223372036854775808)) rfl rfl (guard_shr _ _ _ _ _) (shr_run lo _) ?_; obtain ⟨q, hq⟩ : ∃ q, q = lo / 9223372036854775808 := ⟨_, rfl⟩; rw [← hq]; have hq0 : (q == 0) = true := (by rw [hq]; exact SHR.out); clear hq)
    | (refine unguard rfl ?_; refine at_op (.convert 2 22 (.tmp 73)) rfl ?_; refine wl_conv rfl 2 22 (.tmp 73) rfl (.int .i64 lo) (.int .u64 lo) rfl (conv_u lo h0 H2.out _) ?_)
)
  go_ret
  exact ⟨rfl, (((u3.below (by omega)).trans (u4.below (by omega))).trans (u5.below (by omega)))⟩

set_option maxRecDepth 100000 in
set_option maxHeartbeats 1000000 in
theorem big_e (w : World) (hi lo bv : Int) (lo0 : Int) (HADD : Hid (∀ w, (binOp .add 22 (.int .u64 lo0) (.int .u64 9223372036854775806)).run Yba.prog w = .ok (.int .u64 lo) w)) :
    Calls Yba.prog 3 #[.int .u64 hi, .int .u64 lo0, .bool true, .bool true, .int .u64 bv] w fun e w1 => e = .returned (.bool true) ∧ Below w.heap.size w w1 := by
  obtain ⟨N, hN⟩ : ∃ N, w.heap.size = N := ⟨_, rfl⟩
  rw [hN]
  have hnp := neq_ptr
  go_enter Yba.func3, Yba.ntmps3
  go_wp2_with (first
    | (refine at_op (.binOp .add 22 (.tmp 17) (.const (.int .u64 9223372036854775806)) 22) rfl ?_; refine wl_bin rfl .add 22 (.tmp 17) (.const (.int .u64 9223372036854775806)) 22 rfl (.int .u64 lo0) (.int .u64 9223372036854775806) (.int .u64 lo) rfl rfl (guard_add _ _ _ _ _) (HADD.out _) ?_)
    | (refine at_op (.alloc 27) rfl ?_; refine wl_alloc rfl 27 rfl _ zero27 N hN ?_; intro w1 u1)
    | (go_at_call 4; refine (setUint64_any _ (N + 1) N bv (u1.size_new hN) u1.here).mono ?_; rintro _ w2 ⟨rfl, b2⟩; obtain ⟨N2, hN2⟩ : ∃ N2, w2.heap.size = N2 := ⟨_, rfl⟩; have hle : N + 1 ≤ N2 := by have := b2.size; have := u1.size; omega)
    | (refine at_op (.build 30 #[(0, .tmp 23), (1, .tmp 24), (2, .tmp 25)]) rfl ?_; refine wl_build rfl 30 #[(0, .tmp 23), (1, .tmp 24), (2, .tmp 25)] rfl [(0, .int .u64 hi), (1, .int .u64 lo), (2, .pointer (some ⟨N, 0, none⟩))] #[.int .u64 hi, .int .u64 lo, .pointer (some ⟨N, 0, none⟩)] rfl (built30 _ _ _) ?_)
    | (refine at_op (.alloc 30) rfl ?_; refine wl_alloc rfl 30 rfl _ zero30 N2 hN2 ?_; intro w3 u3)
    | (refine at_op (.store 30 (.tmp 12) (.tmp 26)) rfl ?_; refine wl_store_row rfl 30 (.tmp 12) (.tmp 26) rfl N2 #[.int .u64 hi, .int .u64 lo, .pointer (some ⟨N, 0, none⟩)] _ 30 rfl rfl u3.here rfl size30 (one30 _ _ _) ?_; intro w4 u4)
    | (refine at_op (.load 30 (.tmp 12)) rfl ?_; refine wl_load_agg rfl 30 (.tmp 12) rfl N2 0 3 #[.int .u64 hi, .int .u64 lo, .pointer (some ⟨N, 0, none⟩)] 30 (0, 0) rfl u4.here (by simp) _ Yba.underlying30 rfl size30 ?_; rw [all30])
    | (go_at_call 5; refine (int64_no _ hi lo (some ⟨N, 0, none⟩) (N2 + 1) (by have := u3.size; have := u4.size; omega) (.inl rfl)).mono ?_; rintro _ w5 ⟨rfl, u5⟩; obtain ⟨c0, c1, c2⟩ := xcells (u5.keep (by omega) u4.here))
)
  go_ret
  exact ⟨rfl, (((((u1.below (by omega)).trans b2).trans (u3.below (by omega))).trans (u4.below (by omega))).trans (u5.below (by omega)))⟩

set_option maxRecDepth 100000 in
set_option maxHeartbeats 1000000 in
theorem hi_e (w : World) (hi lo bv : Int) (lo0 : Int) (HADD : Hid (∀ w, (binOp .add 22 (.int .u64 lo0) (.int .u64 9223372036854775806)).run Yba.prog w = .ok (.int .u64 lo) w)) (h : (hi != 0) = true) (h' : (hi == 0) = false) :
    Calls Yba.prog 3 #[.int .u64 hi, .int .u64 lo0, .bool false, .bool true, .int .u64 bv] w fun e w1 => e = .returned (.bool true) ∧ Below w.heap.size w w1 := by
  obtain ⟨N, hN⟩ : ∃ N, w.heap.size = N := ⟨_, rfl⟩
  rw [hN]
  go_enter Yba.func3, Yba.ntmps3
  go_wp2_with (first
    | (refine at_op (.binOp .add 22 (.tmp 17) (.const (.int .u64 9223372036854775806)) 22) rfl ?_; refine wl_bin rfl .add 22 (.tmp 17) (.const (.int .u64 9223372036854775806)) 22 rfl (.int .u64 lo0) (.int .u64 9223372036854775806) (.int .u64 lo) rfl rfl (guard_add _ _ _ _ _) (HADD.out _) ?_)
    | (refine at_op (.build 30 #[(0, .tmp 23), (1, .tmp 24), (2, .tmp 25)]) rfl ?_; refine wl_build rfl 30 #[(0, .tmp 23), (1, .tmp 24), (2, .tmp 25)] rfl [(0, .int .u64 hi), (1, .int .u64 lo), (2, .pointer .none)] #[.int .u64 hi, .int .u64 lo, .pointer .none] rfl (built30 _ _ _) ?_)
    | (refine at_op (.alloc 30) rfl ?_; refine wl_alloc rfl 30 rfl _ zero30 N hN ?_; intro w3 u3)
    | (refine at_op (.store 30 (.tmp 12) (.tmp 26)) rfl ?_; refine wl_store_row rfl 30 (.tmp 12) (.tmp 26) rfl N #[.int .u64 hi, .int .u64 lo, .pointer .none] _ 30 rfl rfl u3.here rfl size30 (one30 _ _ _) ?_; intro w4 u4)
    | (refine at_op (.load 30 (.tmp 12)) rfl ?_; refine wl_load_agg rfl 30 (.tmp 12) rfl N 0 3 #[.int .u64 hi, .int .u64 lo, .pointer .none] 30 (0, 0) rfl u4.here (by simp) _ Yba.underlying30 rfl size30 ?_; rw [all30])
    | (go_at_call 5; refine (int64_no _ hi lo .none (N + 1) (by have := u3.size; have := u4.size; omega) (.inr (.inl ⟨rfl, h⟩))).mono ?_; rintro _ w5 ⟨rfl, u5⟩; obtain ⟨c0, c1, c2⟩ := xcells (u5.keep (by omega) u4.here))
)
  go_ret
  exact ⟨rfl, (((u3.below (by omega)).trans (u4.below (by omega))).trans (u5.below (by omega)))⟩

set_option maxRecDepth 100000 in
set_option maxHeartbeats 1000000 in
theorem top_e (w : World) (hi lo bv : Int) (lo0 : Int) (HADD : Hid (∀ w, (binOp .add 22 (.int .u64 lo0) (.int .u64 9223372036854775806)).run Yba.prog w = .ok (.int .u64 lo) w)) (h : (hi != 0) = false) (h' : (hi == 0) = true) (H2 : Hid (decide (9223372036854775807 < lo) = true)) (SHR : Hid ((lo / 9223372036854775808 == 0) = false)) :
    Calls Yba.prog 3 #[.int .u64 hi, .int .u64 lo0, .bool false, .bool true, .int .u64 bv] w fun e w1 => e = .returned (.bool true) ∧ Below w.heap.size w w1 := by
  obtain ⟨N, hN⟩ : ∃ N, w.heap.size = N := ⟨_, rfl⟩
  rw [hN]
  go_enter Yba.func3, Yba.ntmps3
  go_wp2_with (first
    | (refine at_op (.binOp .add 22 (.tmp 17) (.const (.int .u64 9223372036854775806)) 22) rfl ?_; refine wl_bin rfl .add 22 (.tmp 17) (.const (.int .u64 9223372036854775806)) 22 rfl (.int .u64 lo0) (.int .u64 9223372036854775806) (.int .u64 lo) rfl rfl (guard_add _ _ _ _ _) (HADD.out _) ?_)
    | (refine at_op (.build 30 #[(0, .tmp 23), (1, .tmp 24), (2, .tmp 25)]) rfl ?_; refine wl_build rfl 30 #[(0, .tmp 23), (1, .tmp 24), (2, .tmp 25)] rfl [(0, .int .u64 hi), (1, .int .u64 lo), (2, .pointer .none)] #[.int .u64 hi, .int .u64 lo, .pointer .none] rfl (built30 _ _ _) ?_)
    | (refine at_op (.alloc 30) rfl ?_; refine wl_alloc rfl 30 rfl _ zero30 N hN ?_; intro w3 u3)
    | (refine at_op (.store 30 (.tmp 12) (.tmp 26)) rfl ?_; refine wl_store_row rfl 30 (.tmp 12) (.tmp 26) rfl N #[.int .u64 hi, .int .u64 lo, .pointer .none] _ 30 rfl rfl u3.here rfl size30 (one30 _ _ _) ?_; intro w4 u4)
    | (refine at_op (.load 30 (.tmp 12)) rfl ?_; refine wl_load_agg rfl 30 (.tmp 12) rfl N 0 3 #[.int .u64 hi, .int .u64 lo, .pointer .none] 30 (0, 0) rfl u4.here (by simp) _ Yba.underlying30 rfl size30 ?_; rw [all30])
    | (go_at_call 5; refine (int64_no _ hi lo .none (N + 1) (by have := u3.size; have := u4.size; omega) (.inr (.inr ⟨rfl, h, H2.out⟩))).mono ?_; rintro _ w5 ⟨rfl, u5⟩; obtain ⟨c0, c1, c2⟩ := xcells (u5.keep (by omega) u4.here))
    | (refine unguard rfl ?_; refine at_op (.binOp .shr 22 (.tmp 55) (.const (.int .u64 63)) 33) rfl ?_; refine wl_bin rfl .shr 22 (.tmp 55) (.const (.int .u64 63)) 33 rfl (.int .u64 lo) (.int .u64 63) (.int .u64 (lo / 9223372036854775808)) rfl rfl (guard_shr _ _ _ _ _) (shr_run lo _) ?_; obtain ⟨q, hq⟩ : ∃ q, q = lo / 9223372036854775808 := ⟨_, rfl⟩; rw [← hq]; have hq0 : (q == 0) = false := (by rw [hq]; exact SHR.out); clear hq)
)
  go_ret
  exact ⟨rfl, (((u3.below (by omega)).trans (u4.below (by omega))).trans (u5.below (by omega)))⟩

set_option maxRecDepth 100000 in
set_option maxHeartbeats 1000000 in
theorem fit_e (w : World) (hi lo bv : Int) (lo0 : Int) (HADD : Hid (∀ w, (binOp .add 22 (.int .u64 lo0) (.int .u64 9223372036854775806)).run Yba.prog w = .ok (.int .u64 lo) w)) (h : (hi != 0) = false) (h' : (hi == 0) = true) (h0 : 0 ≤ lo) (H2 : Hid (lo ≤ 9223372036854775807)) (SHR : Hid ((lo / 9223372036854775808 == 0) = true)) :
    Calls Yba.prog 3 #[.int .u64 hi, .int .u64 lo0, .bool false, .bool true, .int .u64 bv] w fun e w1 => e = .returned (.bool true) ∧ Below w.heap.size w w1 := by
  obtain ⟨N, hN⟩ : ∃ N, w.heap.size = N := ⟨_, rfl⟩
  rw [hN]
  go_enter Yba.func3, Yba.ntmps3
  go_wp2_with (first
    | (refine at_op (.binOp .add 22 (.tmp 17) (.const (.int .u64 9223372036854775806)) 22) rfl ?_; refine wl_bin rfl .add 22 (.tmp 17) (.const (.int .u64 9223372036854775806)) 22 rfl (.int .u64 lo0) (.int .u64 9223372036854775806) (.int .u64 lo) rfl rfl (guard_add _ _ _ _ _) (HADD.out _) ?_)
    | (refine at_op (.build 30 #[(0, .tmp 23), (1, .tmp 24), (2, .tmp 25)]) rfl ?_; refine wl_build rfl 30 #[(0, .tmp 23), (1, .tmp 24), (2, .tmp 25)] rfl [(0, .int .u64 hi), (1, .int .u64 lo), (2, .pointer .none)] #[.int .u64 hi, .int .u64 lo, .pointer .none] rfl (built30 _ _ _) ?_)
    | (refine at_op (.alloc 30) rfl ?_; refine wl_alloc rfl 30 rfl _ zero30 N hN ?_; intro w3 u3)
    | (refine at_op (.store 30 (.tmp 12) (.tmp 26)) rfl ?_; refine wl_store_row rfl 30 (.tmp 12) (.tmp 26) rfl N #[.int .u64 hi, .int .u64 lo, .pointer .none] _ 30 rfl rfl u3.here rfl size30 (one30 _ _ _) ?_; intro w4 u4)
    | (refine at_op (.load 30 (.tmp 12)) rfl ?_; refine wl_load_agg rfl 30 (.tmp 12) rfl N 0 3 #[.int .u64 hi, .int .u64 lo, .pointer .none] 30 (0, 0) rfl u4.here (by simp) _ Yba.underlying30 rfl size30 ?_; rw [all30])
    | (go_at_call 5; refine (int64_yes _ hi lo (N + 1) (by have := u3.size; have := u4.size; omega) h h0 H2).mono ?_; rintro _ w5 ⟨rfl, u5⟩; obtain ⟨c0, c1, c2⟩ := xcells (u5.keep (by omega) u4.here))
    | (refine unguard rfl ?_; refine at_op (.binOp .shr 22 (.tmp 55) (.const (.int .u64 63)) 33) rfl ?_; refine wl_bin rfl .shr 22 (.tmp 55) (.const (.int .u64 63)) 33 rfl (.int .u64 lo) (.int .u64 63) (.int .u64 (lo / 9223372036854775808)) rfl rfl (guard_shr _ _ _ _ _) (shr_run lo _) ?_; obtain ⟨q, hq⟩ : ∃ q, q = lo / 9223372036854775808 := ⟨_, rfl⟩; rw [← hq]; have hq0 : (q == 0) = true := (by rw [hq]; exact SHR.out); clear hq)
    | (refine unguard rfl ?_; refine at_op (.convert 2 22 (.tmp 73)) rfl ?_; refine wl_conv rfl 2 22 (.tmp 73) rfl (.int .i64 lo) (.int .u64 lo) rfl (conv_u lo h0 H2.out _) ?_)
)
  go_ret
  exact ⟨rfl, (((u3.below (by omega)).trans (u4.below (by omega))).trans (u5.below (by omega)))⟩

end Go.Proofs.Ybulkduck
