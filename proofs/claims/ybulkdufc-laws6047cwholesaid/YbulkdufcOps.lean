/-
  The run equations of this function's operations.
-/
import Derived.Test.YbulkdufcEng
namespace Go.Proofs.Ybulkdufc
open Go.RowKit Go.Split
theorem fa44_7 (b : Nat) (w : World) : (Instr.fieldAt 44 (.pointer (some ⟨b, 0, none⟩)) 7).run Yba.prog w = .ok (.pointer (some ⟨b, 12, none⟩)) w := by kernel_rfl
theorem fa44_8 (b : Nat) (w : World) : (Instr.fieldAt 44 (.pointer (some ⟨b, 0, none⟩)) 8).run Yba.prog w = .ok (.pointer (some ⟨b, 13, none⟩)) w := by kernel_rfl
theorem fa44_9 (b : Nat) (w : World) : (Instr.fieldAt 44 (.pointer (some ⟨b, 0, none⟩)) 9).run Yba.prog w = .ok (.pointer (some ⟨b, 14, none⟩)) w := by kernel_rfl
theorem fa44_10 (b : Nat) (w : World) : (Instr.fieldAt 44 (.pointer (some ⟨b, 0, none⟩)) 10).run Yba.prog w = .ok (.pointer (some ⟨b, 15, none⟩)) w := by kernel_rfl
theorem fa44_11 (b : Nat) (w : World) : (Instr.fieldAt 44 (.pointer (some ⟨b, 0, none⟩)) 11).run Yba.prog w = .ok (.pointer (some ⟨b, 16, none⟩)) w := by kernel_rfl
theorem fa44_12 (b : Nat) (w : World) : (Instr.fieldAt 44 (.pointer (some ⟨b, 0, none⟩)) 12).run Yba.prog w = .ok (.pointer (some ⟨b, 17, none⟩)) w := by kernel_rfl
theorem fa44_13 (b : Nat) (w : World) : (Instr.fieldAt 44 (.pointer (some ⟨b, 0, none⟩)) 13).run Yba.prog w = .ok (.pointer (some ⟨b, 18, none⟩)) w := by kernel_rfl
theorem fa44_14 (b : Nat) (w : World) : (Instr.fieldAt 44 (.pointer (some ⟨b, 0, none⟩)) 14).run Yba.prog w = .ok (.pointer (some ⟨b, 19, none⟩)) w := by kernel_rfl
theorem fa57_0 (b : Nat) (w : World) : (Instr.fieldAt 57 (.pointer (some ⟨b, 0, none⟩)) 0).run Yba.prog w = .ok (.pointer (some ⟨b, 0, none⟩)) w := by kernel_rfl
theorem fa57_9 (b : Nat) (w : World) : (Instr.fieldAt 57 (.pointer (some ⟨b, 0, none⟩)) 9).run Yba.prog w = .ok (.pointer (some ⟨b, 18, none⟩)) w := by kernel_rfl
theorem fa60_0 (b : Nat) (w : World) : (Instr.fieldAt 60 (.pointer (some ⟨b, 0, none⟩)) 0).run Yba.prog w = .ok (.pointer (some ⟨b, 0, none⟩)) w := by kernel_rfl
theorem fa60_1 (b : Nat) (w : World) : (Instr.fieldAt 60 (.pointer (some ⟨b, 0, none⟩)) 1).run Yba.prog w = .ok (.pointer (some ⟨b, 1, none⟩)) w := by kernel_rfl
theorem fa73_4 (b : Nat) (w : World) : (Instr.fieldAt 73 (.pointer (some ⟨b, 0, none⟩)) 4).run Yba.prog w = .ok (.pointer (some ⟨b, 23, none⟩)) w := by kernel_rfl
theorem z63 : (Yba.prog.info? 63).map (·.zero) = some (some (.agg (kc (sid 0)))) := by kernel_rfl
theorem ix63 (b : Nat) (w : World) : (Instr.indexAt 63 (.pointer (some ⟨b, 0, none⟩)) (.int .i64 0)).run Yba.prog w = .ok (.pointer (some ⟨b, 0, none⟩)) w := by kernel_rfl
theorem size5 : (Yba.prog.info? 5).map (·.size) = some 1 := by kernel_rfl
section
variable {ρ : Operand → Value} {op : Oper} {P : Program} {w : World}
theorem ex_index {ty : TypeId} {x y : Operand} (p q v : Value) (hr : ∀ w, (Instr.indexAt ty p q).run P w = .ok v w) (ho : op.op = .indexAddr ty x y := by rfl) (hx : ρ x = p := by rfl) (hy : ρ y = q := by rfl) : (execOp ρ op).run P w = .ok (.value v) w := by
  simp only [execOp, ho, hx, hy, Sem.run_bind, hr, Result.andThen_ok, Sem.run_pure]
theorem gdp (o : BinOp) (t : TypeId) (x y : Operand) (p q : Option Addr) (w : World) (ho : o = .eql ∨ o = .neq) : (eqGuard o t x y (.pointer p) (.pointer q)).run P w = .ok () w := by
  rcases ho with rfl | rfl <;> simp [eqGuard]
end
/-- Pointers of any type compared. -/
theorem eqp_refl {t e : TypeId} {n : Nat} (hu : Yba.prog.underlying t = some (.pointer e)) (hs : (Yba.prog.info? e).map (·.size) = some n) (d : Nat) (p : Option Addr) (w : World) : (Op.equalIn (d + 1) t (.pointer p) (.pointer p)).run Yba.prog w = .ok true w := by
  obtain ⟨inf, hinf, _⟩ := Option.map_eq_some_iff.1 hs
  cases p with
  | none => rw [Op.equalIn]; simp [run_underlying hu]
  | some a => rw [Op.equalIn]; simp [run_underlying hu, sizeOf, typeInfo, hinf, sameAddr, Result.andThen]
theorem eqp_nil {t e : TypeId} (hu : Yba.prog.underlying t = some (.pointer e)) (d : Nat) (a : Addr) (w : World) : (Op.equalIn (d + 1) t (.pointer (some a)) (.pointer none)).run Yba.prog w = .ok false w := by
  rw [Op.equalIn]
  simp [run_underlying hu]
theorem neqp {t : TypeId} {p q : Option Addr} {b : Bool} {w : World} (h : ∀ d, (Op.equalIn (d + 1) t (.pointer p) (.pointer q)).run Yba.prog w = .ok b w) : (binOp .neq t (.pointer p) (.pointer q)).run Yba.prog w = .ok (.bool (!b)) w := by
  have e : (binOp .neq t (.pointer p) (.pointer q)) = (do return .bool (!(← Op.equal t (.pointer p) (.pointer q)))) := rfl
  rw [e]
  simp only [Sem.run_bind, Op.equal, Op.maxDepth, h 9999, Result.andThen_ok]
  rfl
theorem size60 : (Yba.prog.info? 60).map (·.size) = some 2 := by kernel_rfl
theorem size73 : (Yba.prog.info? 73).map (·.size) = some 37 := by kernel_rfl
theorem ne45 (p : Option Addr) (w : World) : (binOp .neq 45 (.pointer p) (.pointer p)).run Yba.prog w = .ok (.bool false) w := neqp (fun d => eqp_refl under45 size57 d p w)
theorem ne58 (p : Option Addr) (w : World) : (binOp .neq 58 (.pointer p) (.pointer p)).run Yba.prog w = .ok (.bool false) w := neqp (fun d => eqp_refl Yba.underlying58 size60 d p w)
theorem ne65 (p : Option Addr) (w : World) : (binOp .neq 65 (.pointer p) (.pointer p)).run Yba.prog w = .ok (.bool false) w := neqp (fun d => eqp_refl Yba.underlying65 size73 d p w)
theorem ne58nil (a : Addr) (w : World) : (binOp .neq 58 (.pointer (some a)) (.pointer none)).run Yba.prog w = .ok (.bool true) w := neqp (fun d => eqp_nil Yba.underlying58 d a w)
theorem rem8 (a n k : Int) (hn : n ≠ 0) (hk : a.tmod n = k) (w : World) : (binOp .rem 5 (.int .u8 a) (.int .u8 n)).run Yba.prog w = .ok (.int .u8 k) w := by
  simp [binOp, Op.intDiv, hn, hk]
theorem tmod4 (a : Int) (h : (Lit.int .u8 a).wf = true) : a.tmod 4 = 0 ∨ a.tmod 4 = 1 ∨ a.tmod 4 = 2 ∨ a.tmod 4 = 3 := by
  simp only [Lit.wf, Bool.and_eq_true, decide_eq_true_eq] at h
  have h0 : 0 ≤ a := h.1
  rw [Int.tmod_eq_emod_of_nonneg h0]
  omega
theorem tmod3 (a : Int) (h : (Lit.int .u8 a).wf = true) : a.tmod 3 = 0 ∨ a.tmod 3 = 1 ∨ a.tmod 3 = 2 := by
  simp only [Lit.wf, Bool.and_eq_true, decide_eq_true_eq] at h
  have h0 : 0 ≤ a := h.1
  rw [Int.tmod_eq_emod_of_nonneg h0]
  omega
theorem neq9_same (a : ByteArray) (w : World) : (binOp .neq 9 (.string a) (.string a)).run Yba.prog w = .ok (.bool false) w := by
  simp [binOp, Op.stringOp]
theorem neq9_diff {a b : ByteArray} (h : a ≠ b) (w : World) : (binOp .neq 9 (.string a) (.string b)).run Yba.prog w = .ok (.bool true) w := by
  have : (a.toList == b.toList) = false := by
    have := diff_str h
    simp only [Instr.sameNow, beq_toListBytes] at this
    simpa using this
  simp [binOp, Op.stringOp, this]
theorem gdi (o : BinOp) (t : TypeId) (x y : Operand) (k : IntKind) (m n : Int) (w : World) : (eqGuard o t x y (.int k m) (.int k n)).run Yba.prog w = .ok () w := by
  cases o <;> simp [eqGuard]
theorem gds (o : BinOp) (t : TypeId) (x y : Operand) (m n : ByteArray) (w : World) : (eqGuard o t x y (.string m) (.string n)).run Yba.prog w = .ok () w := by
  cases o <;> simp [eqGuard]
/-- The parameters in their slots. -/
theorem entry (a0 : Int) (a1 a2 : ByteArray) (a3 : Bool) (a4 : Int) (a5 : Bool) (a6 : Int) (a7 : Bool) (a8 : Int) (w : World) (R : Ending → World → Prop)
    (h : cT 0 (bodyPost Yba.prog Yba.f3 R) (look [(0, .int .u64 a0), (1, .string a1), (2, .string a2), (3, .bool a3), (4, .int .u8 a4), (5, .bool a5), (6, .int .u8 a6), (7, .bool a7), (8, .int .u64 a8)] (fun _ => undef)) w) :
    Calls Yba.prog 3 #[.int .u64 a0, .string a1, .string a2, .bool a3, .int .u8 a4, .bool a5, .int .u8 a6, .bool a7, .int .u64 a8] w R := by
  refine calls_of_wp Yba.func3 rfl (h _ ⟨?_, fun k => ?_, rfl⟩)
  · simp [Yba.ntmps3]
  · simp only [Yba.ntmps3, Array.getD_eq_getD_getElem?]
    by_cases hk : k < 9
    · rw [Array.getElem?_append_left (by simpa using hk)]
      match k, hk with
      | 0, _ => rfl
      | 1, _ => rfl
      | 2, _ => rfl
      | 3, _ => rfl
      | 4, _ => rfl
      | 5, _ => rfl
      | 6, _ => rfl
      | 7, _ => rfl
      | 8, _ => rfl
    · rw [Array.getElem?_append_right (by simp; omega)]
      match k, hk with
      | k + 9, _ =>
        show ((Array.replicate _ undef)[_]?).getD undef = undef
        rw [Array.getElem?_replicate]
        split <;> rfl
/-- 'zzs6047cpick'. -/
theorem pick_any (b : Bool) (p : Option Addr) (w : World) : Calls Yba.prog 4 #[.bool b, .pointer p] w fun r w1 => r = .returned (.pointer (bif b then p else none)) ∧ w1 = w := by
  cases b with
  | false =>
    go_enter Yba.func4, Yba.ntmps4
    go_wp2
    go_ret
    exact ⟨rfl, rfl⟩
  | true =>
    go_enter Yba.func4, Yba.ntmps4
    go_wp2
    go_ret
    exact ⟨rfl, rfl⟩
/-- The end: true. -/
theorem ret_true {R : Ending → World → Prop} {s : Nat → Value} {w : World} (h18 : s 18 = .bool true) (hR : R (.returned (.bool true)) w) (a : Act) (F : Fr a s) : bodyPost Yba.prog Yba.f3 R .ret a w := by
  refine bodyPost_ret (results_tmp rfl _ _ _) F.defers ?_
  rw [F.val 18, h18]
  exact hR
end Go.Proofs.Ybulkdufc
