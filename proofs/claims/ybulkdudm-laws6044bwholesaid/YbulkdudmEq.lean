/-
  'zzs6044beq' of two equal slices.
-/
import Derived.Test.YbulkdudmSub
namespace Go.Proofs.Ybulkdudm
open Go.RowKit Go.Split
open Extern.Stop (cell)

theorem stood31 : Yba.prog.stoodInHeld 31 = false := by kernel_rfl
theorem eqStr (d : Nat) (s : ByteArray) (w : World) : (Op.equalIn (d + 1) 9 (.string s) (.string s)).run Yba.prog w = .ok true w := by
  rw [Op.equalIn]
  simp [run_underlying Yba.underlying9, beq_toListBytes]
theorem eqFields3 (d : Nat) (e : Array Value) (f1 f2 f3 : Field) (v1 v2 v3 : Value) (n1 : f1.name ≠ "_") (n2 : f2.name ≠ "_") (n3 : f3.name ≠ "_") (w : World)
    (p1 : (part f1.type e f1.offset).run Yba.prog w = .ok v1 w) (p2 : (part f2.type e f2.offset).run Yba.prog w = .ok v2 w) (p3 : (part f3.type e f3.offset).run Yba.prog w = .ok v3 w)
    (q1 : (Op.equalIn d f1.type v1 v1).run Yba.prog w = .ok true w) (q2 : (Op.equalIn d f2.type v2 v2).run Yba.prog w = .ok true w) (q3 : (Op.equalIn d f3.type v3 v3).run Yba.prog w = .ok true w) :
    (Op.eqFields d e e [f1, f2, f3]).run Yba.prog w = .ok true w := by
  simp [Op.eqFields, n1, n2, n3, p1, p2, p3, q1, q2, q3]
theorem equal31 (e : Pe.Ev) (h : e.id.length = 16) (w : World) : (Op.equalIn 10000 31 (.agg (Pe.ec e)) (.agg (Pe.ec e))).run Yba.prog w = .ok true w := by
  have hf : Yba.prog.fieldsOf 31 = #[{ name := "ID", type := 28, offset := 0, embedded := false, tag := "json:\"id\"", pkgPath := "", byteOffset := 0 },
        { name := "Addr", type := 9, offset := 16, embedded := false, tag := "json:\"addr\"", pkgPath := "", byteOffset := 16 },
        { name := "Start", type := 29, offset := 17, embedded := false, tag := "json:\"start,omitempty\"", pkgPath := "", byteOffset := 32 }] := by
    unfold Program.fieldsOf; rw [Yba.underlying31]
  have p1 : (part 28 (Pe.ec e) 0).run Yba.prog w = .ok (.agg (kc e.id)) w := by
    have ha : (isAgg 28).run Yba.prog w = .ok true w := by kernel_rfl
    have hs : (sizeOf 28).run Yba.prog w = .ok 16 w := by kernel_rfl
    unfold part
    simp only [Sem.run_bind, ha, Result.andThen_ok, if_true, hs, Sem.run_pure, Pe.ec_id h]
  have p2 : (part 9 (Pe.ec e) 16).run Yba.prog w = .ok (.string e.addr) w := by
    have ha : (isAgg 9).run Yba.prog w = .ok false w := by kernel_rfl
    have hc : (Pe.ec e)[16]? = some (.string e.addr) := by simp [Pe.ec, kc, h]
    unfold part
    simp only [Sem.run_bind, ha, Result.andThen_ok, Bool.false_eq_true, if_false, hc, Sem.run_pure]
  have p3 : (part 29 (Pe.ec e) 17).run Yba.prog w = .ok (.int .u64 e.start) w := by
    have ha : (isAgg 29).run Yba.prog w = .ok false w := by kernel_rfl
    have hc : (Pe.ec e)[17]? = some (.int .u64 e.start) := by simp [Pe.ec, kc, h]
    unfold part
    simp only [Sem.run_bind, ha, Result.andThen_ok, Bool.false_eq_true, if_false, hc, Sem.run_pure]
  have q1 : (Op.equalIn 9999 28 (.agg (kc e.id)) (.agg (kc e.id))).run Yba.prog w = .ok true w := by
    have := run_equalIn_bytes (P := Yba.prog) w 9997 28 5 16 Yba.underlying28 Yba.underlying5 (fun w => by kernel_rfl) e.id e.id h h
    unfold kc
    rw [this]; simp
  have q2 : (Op.equalIn 9999 9 (.string e.addr) (.string e.addr)).run Yba.prog w = .ok true w := by
    exact eqStr 9998 e.addr w
  have q3 : (Op.equalIn 9999 29 (.int .u64 e.start) (.int .u64 e.start)).run Yba.prog w = .ok true w := by
    have := run_equalIn_int (P := Yba.prog) w 9998 29 .u64 .u64 e.start e.start Yba.underlying29
    rw [this]; simp
  rw [run_equalIn_struct (P := Yba.prog) w 9999 31 _ _ (by rw [hf, Yba.underlying31]) stood31, hf]
  exact eqFields3 9999 _ _ _ _ _ _ _ (by decide) (by decide) (by decide) w p1 p2 p3 q1 q2 q3
theorem neq31 (e : Pe.Ev) (h : e.id.length = 16) (w : World) : (binOp .neq 31 (.agg (Pe.ec e)) (.agg (Pe.ec e))).run Yba.prog w = .ok (.bool false) w := by
  have e1 : (binOp .neq 31 (.agg (Pe.ec e)) (.agg (Pe.ec e))) = (do return .bool (!(← Op.equal 31 (.agg (Pe.ec e)) (.agg (Pe.ec e))))) := rfl
  rw [e1]
  simp only [Sem.run_bind, Op.equal, Op.maxDepth, equal31 e h, Result.andThen_ok]
  rfl
theorem gd31 (x y : Operand) (a b : Array Value) (w : World) : (eqGuard .neq 31 x y (.agg a) (.agg b)).run Yba.prog w = .ok () w := by
  have : Yba.prog.eqGuardType Yba.prog.depth 31 = false := by kernel_rfl
  simp [eqGuard, this]
theorem neq4 (b : Bool) (w : World) : (binOp .neq 4 (.bool b) (.bool b)).run Yba.prog w = .ok (.bool false) w := by cases b <;> kernel_rfl
theorem gd4 (x y : Operand) (b c : Bool) (w : World) : (eqGuard .neq 4 x y (.bool b) (.bool c)).run Yba.prog w = .ok () w := by simp [eqGuard]

set_option maxRecDepth 100000 in
set_option maxHeartbeats 1000000 in
theorem eq_any (w : World) (a1 a2 : Option Addr) (n g1 g2 : Nat) (E : Nat → Pe.Ev) (h1 : PRow w a1 n g1 E) (h2 : PRow w a2 n g2 E) (hnil : a2.isNone = a1.isNone) :
    Calls Yba.prog 7 #[.slice a1 n n, .slice a2 n n] w fun r w1 => r = .returned (.bool true) ∧ ∃ q, w1 = w.drewN q := by
  have hn := h1.max
  obtain ⟨b, hb⟩ : ∃ b, a1.isNone = b := ⟨_, rfl⟩
  have hb1 : Hid _ := hb
  have hb2 : Hid _ := hnil.trans hb
  clear hb hnil
  go_enter Yba.func7, Yba.ntmps7
  go_wp2_with (first
    | (refine at_op (.binOp .eql 23 (.tmp 6) (.const (.slice none 0 0)) 23) rfl ?_; refine wl_bin rfl .eql 23 (.tmp 6) (.const (.slice none 0 0)) 23 rfl (.slice a1 n n) (.slice none 0 0) (.bool b) rfl rfl (guard_nil _ _ _ _ _ _ _ _ _ _) (by rw [eql_nil23, hb1.out]) ?_)
    | (refine at_op (.binOp .eql 23 (.tmp 8) (.const (.slice none 0 0)) 23) rfl ?_; refine wl_bin rfl .eql 23 (.tmp 8) (.const (.slice none 0 0)) 23 rfl (.slice a2 n n) (.slice none 0 0) (.bool b) rfl rfl (guard_nil _ _ _ _ _ _ _ _ _ _) (by rw [eql_nil23, hb2.out]) ?_)
    | (refine at_op (.binOp .neq 4 (.tmp 7) (.tmp 9) 4) rfl ?_; refine wl_bin rfl .neq 4 (.tmp 7) (.tmp 9) 4 rfl (.bool b) (.bool b) (.bool false) rfl rfl (gd4 _ _ _ _ _) (neq4 _ _) ?_))
  go_loopw [5] (fun i wr => ∃ (i' q : Nat), i = .int .i64 i' ∧ i' ≤ n ∧ wr = w.drewN q) (fun i _ => n - (intOf i).toNat)
  case atStart => exact ⟨0, 0, rfl, Nat.zero_le _, rfl⟩
  case round =>
    obtain ⟨i, q, rfl, hi, rfl⟩ := hrel
    by_cases hin : i < n
    · have bi : (i : Int) < (n : Int) := by omega
      have hx1 := fun (w : World) => idx_run (w := w) (t := 23) (e := 31) (cap := n) (size := 18) (h1.at_ (by omega)).out hin Yba.underlying23 Pe.size31
      have hx2 := fun (w : World) => idx_run (w := w) (t := 23) (e := 31) (cap := n) (size := 18) (h2.at_ (by omega)).out hin Yba.underlying23 Pe.size31
      have l1 : ∀ q', (Instr.loadAt 31 (.pointer (some ⟨g1, 0 + i * 18, none⟩))).run Yba.prog ((w.drewN q).drewN q') = .ok (.agg (Pe.ec (E i))) ((w.drewN q).drewN q') := fun q' => ld_pe ((h1.drewN q).drewN q') hin
      have l2 : ∀ q', (Instr.loadAt 31 (.pointer (some ⟨g2, 0 + i * 18, none⟩))).run Yba.prog ((w.drewN q).drewN q') = .ok (.agg (Pe.ec (E i))) ((w.drewN q).drewN q') := fun q' => ld_pe ((h2.drewN q).drewN q') hin
      have hE := h1.ok i
      go_wp2
      refine wp_region_quiet_lit (by kernel_rfl) (by kernel_rfl) ?_
      repeat (first
        | (refine wq_index 23 (.tmp 24) (.tmp 25) rfl rfl (.slice a1 n n) (.int .i64 i) (.pointer (some ⟨g1, 0 + i * 18, none⟩)) rfl rfl hx1 ?_; simp only [Act.put, List.setIfInBounds_toArray, List.set_cons_zero, List.set_cons_succ])
        | (refine wq_index 23 (.tmp 28) (.tmp 29) rfl rfl (.slice a2 n n) (.int .i64 i) (.pointer (some ⟨g2, 0 + i * 18, none⟩)) rfl rfl hx2 ?_; simp only [Act.put, List.setIfInBounds_toArray, List.set_cons_zero, List.set_cons_succ])
        | (refine wq_load 31 (.tmp 26) rfl rfl (.pointer (some ⟨g1, 0 + i * 18, none⟩)) (.agg (Pe.ec (E i))) rfl l1 ?_; simp only [Act.put, List.setIfInBounds_toArray, List.set_cons_zero, List.set_cons_succ])
        | (refine wq_load 31 (.tmp 30) rfl rfl (.pointer (some ⟨g2, 0 + i * 18, none⟩)) (.agg (Pe.ec (E i))) rfl l2 ?_; simp only [Act.put, List.setIfInBounds_toArray, List.set_cons_zero, List.set_cons_succ])
        | (refine wq_bin .neq 31 (.tmp 27) (.tmp 31) 31 rfl rfl (.agg (Pe.ec (E i))) (.agg (Pe.ec (E i))) (.bool false) rfl rfl (fun w => gd31 _ _ _ _ w) (fun w => neq31 _ hE w) ?_; simp only [Act.put, List.setIfInBounds_toArray, List.set_cons_zero, List.set_cons_succ])
        | go_big_quiet_step (fail))
      refine wpQuiet_nil ?_
      rintro w3 ⟨nq, rfl⟩
      clear hx1 hx2 l1 l2 hE
      go_wp2
      go_roundw
      case rel => exact ⟨i + 1, _, by go_num, by omega, rfl⟩
      case measure => simp [intOf]; omega
    · obtain rfl : i = n := by omega
      go_wp2
      go_ret
      exact ⟨rfl, _, rfl⟩
end Go.Proofs.Ybulkdudm
