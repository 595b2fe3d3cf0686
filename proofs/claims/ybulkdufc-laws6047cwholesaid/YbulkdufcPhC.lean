/-
  The third part: the sessions.
-/
import Derived.Test.YbulkdufcPair
namespace Go.Proofs.Ybulkdufc
open Go.RowKit Go.Split
theorem findS12n (v : Value) (b : Nat) (w : World) : (Instr.findKey 63 (.agg (kc (sid 1))) [{ key := .agg (kc (sid 2)), val := v, born := b }]).run Yba.prog w = .ok none w := by kernel_rfl
structure R44 (w0 : World) (B n : Nat) (CT : Array Value) (w' : World) : Prop where
  ex : ∃ L', Mem w0 w' B L' ∧ L'[8]? = some (.cells CT 44 (0, 0)) ∧ L'[n]? = some (.cells (kc (sid 1)) 63 (0, 0)) ∧ L'[n + 1]? = some (.cells (kc (sid 2)) 63 (0, 0))
theorem R44.tab {w0 w' : World} {B n : Nat} {CT : Array Value} (h : R44 w0 B n CT w') (T : Tab CT B) : (Instr.loadAt 27 (.pointer (some ⟨B + 8, 16, none⟩))).run Yba.prog w' = .ok (.map (some (B + 4))) w' := by
  obtain ⟨L', M, h8, _, _⟩ := h.ex
  exact run_load1 M h8 T.conns Yba.underlying27 rfl
theorem R44.s1 {w0 w' : World} {B n : Nat} {CT : Array Value} (h : R44 w0 B n CT w') : (Instr.loadAt 63 (.pointer (some ⟨B + n, 0, none⟩))).run Yba.prog w' = .ok (.agg (kc (sid 1))) w' := by
  obtain ⟨L', M, _, h1, _⟩ := h.ex
  exact ld_sid M h1
theorem R44.s2 {w0 w' : World} {B n : Nat} {CT : Array Value} (h : R44 w0 B n CT w') : (Instr.loadAt 63 (.pointer (some ⟨B + (n + 1), 0, none⟩))).run Yba.prog w' = .ok (.agg (kc (sid 2))) w' := by
  obtain ⟨L', M, _, _, h2⟩ := h.ex
  exact ld_sid M h2
set_option maxRecDepth 100000 in
theorem phC (a0 : Int) (a1 a2 : ByteArray) (a3 : Bool) (a4 : Int) (a5 : Bool) (a6 : Int) (a7 : Bool) (a8 : Int) (w0 w : World) (B : Nat) (R : Ending → World → Prop) (s : Nat → Value) (CT CC CD : Array Value) (k : Int) (st : Bool) (CO Y1 Y2 : Obj) (pc pu : Option Addr) (T : Tab CT B) (C : Cli CC a0 a1 a3 (B + 9)) (D : Cli CD a0 a1 a3 (B + 11))
    (M : Mem w0 w B (LB B CO Y1 Y2 (em) (em) (em) (em) CT CC CD pc pu (STl B st)))
    (nextN : (a7 = false → ∀ (s' : Nat → Value) (w' : World), Mem w0 w' B (LB B CO Y1 Y2 (em) (em) (em) (em) CT CC CD pc pu (STl B st ++ [.cells (kc (sid 1)) 63 (0, 0), .cells (kc (sid 2)) 63 (0, 0)])) → cT 21 (bodyPost Yba.prog Yba.f3 R) (look [(0, .int .u64 a0), (1, .string a1), (2, .string a2), (3, .bool a3), (4, .int .u8 a4), (5, .bool a5), (6, .int .u8 a6), (7, .bool a7), (8, .int .u64 a8), (19, .pointer (some ⟨B + 8, 0, none⟩)), (20, .pointer (some ⟨B + 10, 0, none⟩)), (21, .pointer (some ⟨B + 12, 0, none⟩)), (22, .pointer (some ⟨B + 13, 0, none⟩)), (23, .int .i64 k), (24, .map (some (B + (bif a3 then 2 else 1)))), (25, .map (some (B + (bif a3 then 1 else 2)))), (26, .pointer (some ⟨B + 14, 0, none⟩)), (27, .pointer (bif st then some ⟨B + 15, 0, none⟩ else none)), (28, .pointer (some ⟨B + nn st, 0, none⟩)), (29, .pointer (some ⟨B + (nn st + 1), 0, none⟩)), (30, .int .u64 a8), (31, .pointer (bif a7 then some ⟨B + (nn st + 3), 0, none⟩ else none)), (32, .pointer (bif a7 then some ⟨B + (nn st + 5), 0, none⟩ else none))] s') w'))
    (nextS : (a7 = true → ∀ (sw : Bool) (CS1 CS2 : Array Value) (s' : Nat → Value) (w' : World), Ses CS1 1 ⟨B + 10, 0, none⟩ (B + (nn st + 2)) → Ses CS2 2 ⟨B + 12, 0, none⟩ (B + (nn st + 4)) → Mem w0 w' B (LB B CO Y1 Y2 (.map #[ent (.agg (kc (sid 1))) (.pointer (some ⟨B + (nn st + 3), 0, none⟩)) 0, ent (.agg (kc (sid 2))) (.pointer (some ⟨B + (nn st + 5), 0, none⟩)) 1] 2) (.map #[ent (.int .u64 a8) (.map (some (B + (nn st + 6)))) 0] 1) (.map #[ent (.agg (kc (sid 1))) (.pointer (some ⟨B + (nn st + 3), 0, none⟩)) 0] 1) (.map #[ent (.agg (kc (sid 2))) (.pointer (some ⟨B + (nn st + 5), 0, none⟩)) 0] 1) CT CC CD pc pu (STl B st ++ [.cells (kc (sid 1)) 63 (0, 0), .cells (kc (sid 2)) 63 (0, 0), .map #[ent (.int .u64 a8) (.pointer none) 0] 1, .cells CS1 73 (0, 0), .map #[ent (.int .u64 a8) (.pointer none) 0] 1, .cells CS2 73 (0, 0), .map (innE sw) 2])) → cT 21 (bodyPost Yba.prog Yba.f3 R) (look [(0, .int .u64 a0), (1, .string a1), (2, .string a2), (3, .bool a3), (4, .int .u8 a4), (5, .bool a5), (6, .int .u8 a6), (7, .bool a7), (8, .int .u64 a8), (19, .pointer (some ⟨B + 8, 0, none⟩)), (20, .pointer (some ⟨B + 10, 0, none⟩)), (21, .pointer (some ⟨B + 12, 0, none⟩)), (22, .pointer (some ⟨B + 13, 0, none⟩)), (23, .int .i64 k), (24, .map (some (B + (bif a3 then 2 else 1)))), (25, .map (some (B + (bif a3 then 1 else 2)))), (26, .pointer (some ⟨B + 14, 0, none⟩)), (27, .pointer (bif st then some ⟨B + 15, 0, none⟩ else none)), (28, .pointer (some ⟨B + nn st, 0, none⟩)), (29, .pointer (some ⟨B + (nn st + 1), 0, none⟩)), (30, .int .u64 a8), (31, .pointer (bif a7 then some ⟨B + (nn st + 3), 0, none⟩ else none)), (32, .pointer (bif a7 then some ⟨B + (nn st + 5), 0, none⟩ else none))] s') w')) :
    cT 15 (bodyPost Yba.prog Yba.f3 R) (look [(0, .int .u64 a0), (1, .string a1), (2, .string a2), (3, .bool a3), (4, .int .u8 a4), (5, .bool a5), (6, .int .u8 a6), (7, .bool a7), (8, .int .u64 a8), (19, .pointer (some ⟨B + 8, 0, none⟩)), (20, .pointer (some ⟨B + 10, 0, none⟩)), (21, .pointer (some ⟨B + 12, 0, none⟩)), (22, .pointer (some ⟨B + 13, 0, none⟩)), (23, .int .i64 k), (24, .map (some (B + (bif a3 then 2 else 1)))), (25, .map (some (B + (bif a3 then 1 else 2)))), (26, .pointer (some ⟨B + 14, 0, none⟩)), (27, .pointer (bif st then some ⟨B + 15, 0, none⟩ else none))] s) w := by
  cases st with
  | false =>
    refine cT_step 15 (cL_region ?_)
    refine L_alloc 28 15 (.agg (kc (sid 0))) M rfl z63 ?_; clear M; intro w M
    have M : Mem w0 w B (LB B CO Y1 Y2 (em) (em) (em) (em) CT CC CD pc pu ([.cells (kc (sid 0)) 63 (0, 0)])) := M
    refine L_alloc 29 16 (.agg (kc (sid 0))) M rfl z63 ?_; clear M; intro w M
    have M : Mem w0 w B (LB B CO Y1 Y2 (em) (em) (em) (em) CT CC CD pc pu ([.cells (kc (sid 0)) 63 (0, 0), .cells (kc (sid 0)) 63 (0, 0)])) := M
    refine L_nil (show cT 16 _ _ _ from ?_)
    refine cT_step 16 (cL_region ?_)
    refine L_run 168 (.pointer (some ⟨B + 15, 0, none⟩)) M (fun w M => ex_index _ _ _ (ix63 (B + 15))) ?_
    refine L_store1 15 0 (.int .u8 1) (kc (sid 0)) 63 M rfl (by simp [kc, sid]) size5 ?_; clear M; intro w M; rw [sid_set1] at M
    have M : Mem w0 w B (LB B CO Y1 Y2 (em) (em) (em) (em) CT CC CD pc pu ([.cells (kc (sid 1)) 63 (0, 0), .cells (kc (sid 0)) 63 (0, 0)])) := M
    refine L_nil (show cT 17 _ _ _ from ?_)
    refine cT_step 17 (cL_region ?_)
    refine L_run 169 (.pointer (some ⟨B + 16, 0, none⟩)) M (fun w M => ex_index _ _ _ (ix63 (B + 16))) ?_
    refine L_store1 16 0 (.int .u8 2) (kc (sid 0)) 63 M rfl (by simp [kc, sid]) size5 ?_; clear M; intro w M; rw [sid_set2] at M
    have M : Mem w0 w B (LB B CO Y1 Y2 (em) (em) (em) (em) CT CC CD pc pu ([.cells (kc (sid 1)) 63 (0, 0), .cells (kc (sid 2)) 63 (0, 0)])) := M
    refine L_nil (show cT 18 _ _ _ from ?_)
    refine cT_step 18 (cL_region ?_)
    refine L_run 170 (.int .u64 a8) M (fun w M => ex_move _) ?_
    refine L_run 30 (.int .u64 a8) M (fun w M => ex_move _) ?_
    refine L_nil (show cT 19 _ _ _ from ?_)
    refine cT_step 19 (cL_region ?_)
    refine L_run 31 (.pointer none) M (fun w M => ex_move _) ?_
    refine L_run 32 (.pointer none) M (fun w M => ex_move _) ?_
    refine L_nil (show cT 20 _ _ _ from ?_)
    cases a7 with
    | false =>
      refine cT_step 20 (cL_seq (cL_region ?_))
      refine L_run 171 (.bool false) M (fun w M => ex_move _) ?_
      refine L_nil (show cL _ _ _ _ _ from ?_)
      refine cL_if false rfl ?_
      refine cL_skip (show cT 21 _ _ _ from ?_)
      exact cL_as [(0, .int .u64 a0), (1, .string a1), (2, .string a2), (3, .bool a3), (4, .int .u8 a4), (5, .bool a5), (6, .int .u8 a6), (7, .bool false), (8, .int .u64 a8), (19, .pointer (some ⟨B + 8, 0, none⟩)), (20, .pointer (some ⟨B + 10, 0, none⟩)), (21, .pointer (some ⟨B + 12, 0, none⟩)), (22, .pointer (some ⟨B + 13, 0, none⟩)), (23, .int .i64 k), (24, .map (some (B + (bif a3 then 2 else 1)))), (25, .map (some (B + (bif a3 then 1 else 2)))), (26, .pointer (some ⟨B + 14, 0, none⟩)), (27, .pointer none), (28, .pointer (some ⟨B + 15, 0, none⟩)), (29, .pointer (some ⟨B + 16, 0, none⟩)), (30, .int .u64 a8), (31, .pointer none), (32, .pointer none)] (by repeat (first | exact trivial | refine And.intro rfl ?_)) (nextN rfl _ _ M)
    | true =>
      refine cT_step 20 (cL_seq (cL_region ?_))
      refine L_run 171 (.bool true) M (fun w M => ex_move _) ?_
      refine L_nil (show cL _ _ _ _ _ from ?_)
      refine cL_if true rfl ?_
      obtain ⟨CS1, hS1, S1⟩ := built73 1 ⟨B + 10, 0, none⟩ (B + 17)
      obtain ⟨CS2, hS2, S2⟩ := built73 2 ⟨B + 12, 0, none⟩ (B + 19)
      refine cL_seq (cL_region ?_)
      refine L_run 172 (.agg (kc (sid 1))) M (fun w M => ex_load _ _ (ld_sid M (j := 15) (x := 1) rfl)) ?_
      refine L_run 173 (.pointer (some ⟨B + 10, 0, none⟩)) M (fun w M => ex_move _) ?_
      refine L_makeMap 174 17 M rfl ?_; clear M; intro w M
      have M : Mem w0 w B (LB B CO Y1 Y2 (em) (em) (em) (em) CT CC CD pc pu ([.cells (kc (sid 1)) 63 (0, 0), .cells (kc (sid 2)) 63 (0, 0), .map #[] 0])) := M
      refine L_run 175 (.int .u64 a8) M (fun w M => ex_move _) ?_
      refine L_update 17 0 #[] (.int .u64 a8) (.pointer none) M rfl Yba.underlying66 (fun w => ck64 a8 false w) (fun w => find_nil w Yba.underlying64 _) ?_; clear M; intro w M
      have M : Mem w0 w B (LB B CO Y1 Y2 (em) (em) (em) (em) CT CC CD pc pu ([.cells (kc (sid 1)) 63 (0, 0), .cells (kc (sid 2)) 63 (0, 0), .map #[ent (.int .u64 a8) (.pointer none) 0] 1])) := M
      refine L_run 176 (.map (some (B + 17))) M (fun w M => ex_move _) ?_
      refine L_build 177 _ CS1 hS1 ?_
      refine L_box 178 18 CS1 M rfl ?_; clear M; intro w M
      have M : Mem w0 w B (LB B CO Y1 Y2 (em) (em) (em) (em) CT CC CD pc pu ([.cells (kc (sid 1)) 63 (0, 0), .cells (kc (sid 2)) 63 (0, 0), .map #[ent (.int .u64 a8) (.pointer none) 0] 1, .cells CS1 73 (0, 0)])) := M
      refine L_run 31 (.pointer (some ⟨B + 18, 0, none⟩)) M (fun w M => ex_move _) ?_
      refine L_nil (show cL _ _ _ _ _ from ?_)
      refine cL_seq (cL_region ?_)
      refine L_run 179 (.agg (kc (sid 2))) M (fun w M => ex_load _ _ (ld_sid M (j := 16) (x := 2) rfl)) ?_
      refine L_run 180 (.pointer (some ⟨B + 12, 0, none⟩)) M (fun w M => ex_move _) ?_
      refine L_makeMap 181 19 M rfl ?_; clear M; intro w M
      have M : Mem w0 w B (LB B CO Y1 Y2 (em) (em) (em) (em) CT CC CD pc pu ([.cells (kc (sid 1)) 63 (0, 0), .cells (kc (sid 2)) 63 (0, 0), .map #[ent (.int .u64 a8) (.pointer none) 0] 1, .cells CS1 73 (0, 0), .map #[] 0])) := M
      refine L_run 182 (.int .u64 a8) M (fun w M => ex_move _) ?_
      refine L_update 19 0 #[] (.int .u64 a8) (.pointer none) M rfl Yba.underlying66 (fun w => ck64 a8 false w) (fun w => find_nil w Yba.underlying64 _) ?_; clear M; intro w M
      have M : Mem w0 w B (LB B CO Y1 Y2 (em) (em) (em) (em) CT CC CD pc pu ([.cells (kc (sid 1)) 63 (0, 0), .cells (kc (sid 2)) 63 (0, 0), .map #[ent (.int .u64 a8) (.pointer none) 0] 1, .cells CS1 73 (0, 0), .map #[ent (.int .u64 a8) (.pointer none) 0] 1])) := M
      refine L_run 183 (.map (some (B + 19))) M (fun w M => ex_move _) ?_
      refine L_build 184 _ CS2 hS2 ?_
      refine L_box 185 20 CS2 M rfl ?_; clear M; intro w M
      have M : Mem w0 w B (LB B CO Y1 Y2 (em) (em) (em) (em) CT CC CD pc pu ([.cells (kc (sid 1)) 63 (0, 0), .cells (kc (sid 2)) 63 (0, 0), .map #[ent (.int .u64 a8) (.pointer none) 0] 1, .cells CS1 73 (0, 0), .map #[ent (.int .u64 a8) (.pointer none) 0] 1, .cells CS2 73 (0, 0)])) := M
      refine L_run 32 (.pointer (some ⟨B + 20, 0, none⟩)) M (fun w M => ex_move _) ?_
      refine L_nil (show cL _ _ _ _ _ from ?_)
      have hC := M.drew1
      refine cL_seq (cL_cut [0, 1, 2, 3, 4, 5] 6 [] ?_)
      refine q_run 186 (.pointer (some ⟨B + 10, 0, none⟩)) hC (fun w M => ex_move _) ?_
      refine q_run 187 (.pointer (some ⟨B + 10, 0, none⟩)) hC (fun w M => ex_nil _) ?_
      refine q_run 188 (.pointer (some ⟨B + 10, 18, none⟩)) hC (fun w M => ex_field _ _ (fa57_9 (B + 10))) ?_
      refine q_run 189 (.map (some (B + 9))) hC (fun w M => ex_load _ _ (run_load1 M (j := 10) (i := 18) rfl C.sessions Yba.underlying26 rfl)) ?_
      refine q_run 190 (.agg (kc (sid 1))) hC (fun w M => ex_load _ _ (ld_sid M (j := 15) (x := 1) rfl)) ?_
      refine q_run 191 (.pointer (some ⟨B + 18, 0, none⟩)) hC (fun w M => ex_move _) ?_
      refine q_then ?_
      clear hC; replace M := M.drew
      refine L_update 9 0 #[] (.agg (kc (sid 1))) (.pointer (some ⟨B + 18, 0, none⟩)) M rfl Yba.underlying26 (fun w => ck63 1 false w) (fun w => find_nil w Yba.underlying63 _) ?_; clear M; intro w M
      have M : Mem w0 w B (LB B CO Y1 Y2 (em) (em) (.map #[ent (.agg (kc (sid 1))) (.pointer (some ⟨B + 18, 0, none⟩)) 0] 1) (em) CT CC CD pc pu ([.cells (kc (sid 1)) 63 (0, 0), .cells (kc (sid 2)) 63 (0, 0), .map #[ent (.int .u64 a8) (.pointer none) 0] 1, .cells CS1 73 (0, 0), .map #[ent (.int .u64 a8) (.pointer none) 0] 1, .cells CS2 73 (0, 0)])) := M
      refine L_nil (show cL _ _ _ _ _ from ?_)
      have hC := M.drew1
      refine cL_seq (cL_cut [0, 1, 2, 3, 4, 5] 6 [] ?_)
      refine q_run 192 (.pointer (some ⟨B + 12, 0, none⟩)) hC (fun w M => ex_move _) ?_
      refine q_run 193 (.pointer (some ⟨B + 12, 0, none⟩)) hC (fun w M => ex_nil _) ?_
      refine q_run 194 (.pointer (some ⟨B + 12, 18, none⟩)) hC (fun w M => ex_field _ _ (fa57_9 (B + 12))) ?_
      refine q_run 195 (.map (some (B + 11))) hC (fun w M => ex_load _ _ (run_load1 M (j := 12) (i := 18) rfl D.sessions Yba.underlying26 rfl)) ?_
      refine q_run 196 (.agg (kc (sid 2))) hC (fun w M => ex_load _ _ (ld_sid M (j := 16) (x := 2) rfl)) ?_
      refine q_run 197 (.pointer (some ⟨B + 20, 0, none⟩)) hC (fun w M => ex_move _) ?_
      refine q_then ?_
      clear hC; replace M := M.drew
      refine L_update 11 0 #[] (.agg (kc (sid 2))) (.pointer (some ⟨B + 20, 0, none⟩)) M rfl Yba.underlying26 (fun w => ck63 2 false w) (fun w => find_nil w Yba.underlying63 _) ?_; clear M; intro w M
      have M : Mem w0 w B (LB B CO Y1 Y2 (em) (em) (.map #[ent (.agg (kc (sid 1))) (.pointer (some ⟨B + 18, 0, none⟩)) 0] 1) (.map #[ent (.agg (kc (sid 2))) (.pointer (some ⟨B + 20, 0, none⟩)) 0] 1) CT CC CD pc pu ([.cells (kc (sid 1)) 63 (0, 0), .cells (kc (sid 2)) 63 (0, 0), .map #[ent (.int .u64 a8) (.pointer none) 0] 1, .cells CS1 73 (0, 0), .map #[ent (.int .u64 a8) (.pointer none) 0] 1, .cells CS2 73 (0, 0)])) := M
      refine L_nil (show cL _ _ _ _ _ from ?_)
      have hC := M.drew1
      refine cL_seq (cL_cut [0, 1, 2, 3, 4, 5] 6 [] ?_)
      refine q_run 198 (.pointer (some ⟨B + 8, 0, none⟩)) hC (fun w M => ex_move _) ?_
      refine q_run 199 (.pointer (some ⟨B + 8, 0, none⟩)) hC (fun w M => ex_nil _) ?_
      refine q_run 200 (.pointer (some ⟨B + 8, 15, none⟩)) hC (fun w M => ex_field _ _ (fa44_10 (B + 8))) ?_
      refine q_run 201 (.map (some (B + 3))) hC (fun w M => ex_load _ _ (run_load1 M (j := 8) (i := 15) rfl T.sessions Yba.underlying26 rfl)) ?_
      refine q_run 202 (.agg (kc (sid 1))) hC (fun w M => ex_load _ _ (ld_sid M (j := 15) (x := 1) rfl)) ?_
      refine q_run 203 (.pointer (some ⟨B + 18, 0, none⟩)) hC (fun w M => ex_move _) ?_
      refine q_then ?_
      clear hC; replace M := M.drew
      refine L_update 3 0 #[] (.agg (kc (sid 1))) (.pointer (some ⟨B + 18, 0, none⟩)) M rfl Yba.underlying26 (fun w => ck63 1 false w) (fun w => find_nil w Yba.underlying63 _) ?_; clear M; intro w M
      have M : Mem w0 w B (LB B CO Y1 Y2 (.map #[ent (.agg (kc (sid 1))) (.pointer (some ⟨B + 18, 0, none⟩)) 0] 1) (em) (.map #[ent (.agg (kc (sid 1))) (.pointer (some ⟨B + 18, 0, none⟩)) 0] 1) (.map #[ent (.agg (kc (sid 2))) (.pointer (some ⟨B + 20, 0, none⟩)) 0] 1) CT CC CD pc pu ([.cells (kc (sid 1)) 63 (0, 0), .cells (kc (sid 2)) 63 (0, 0), .map #[ent (.int .u64 a8) (.pointer none) 0] 1, .cells CS1 73 (0, 0), .map #[ent (.int .u64 a8) (.pointer none) 0] 1, .cells CS2 73 (0, 0)])) := M
      refine L_nil (show cL _ _ _ _ _ from ?_)
      have hC := M.drew1
      refine cL_seq (cL_cut [0, 1, 2, 3, 4, 5] 6 [] ?_)
      refine q_run 204 (.pointer (some ⟨B + 8, 0, none⟩)) hC (fun w M => ex_move _) ?_
      refine q_run 205 (.pointer (some ⟨B + 8, 0, none⟩)) hC (fun w M => ex_nil _) ?_
      refine q_run 206 (.pointer (some ⟨B + 8, 15, none⟩)) hC (fun w M => ex_field _ _ (fa44_10 (B + 8))) ?_
      refine q_run 207 (.map (some (B + 3))) hC (fun w M => ex_load _ _ (run_load1 M (j := 8) (i := 15) rfl T.sessions Yba.underlying26 rfl)) ?_
      refine q_run 208 (.agg (kc (sid 2))) hC (fun w M => ex_load _ _ (ld_sid M (j := 16) (x := 2) rfl)) ?_
      refine q_run 209 (.pointer (some ⟨B + 20, 0, none⟩)) hC (fun w M => ex_move _) ?_
      refine q_then ?_
      clear hC; replace M := M.drew
      refine L_update 3 1 #[ent (.agg (kc (sid 1))) (.pointer (some ⟨B + 18, 0, none⟩)) 0] (.agg (kc (sid 2))) (.pointer (some ⟨B + 20, 0, none⟩)) M rfl Yba.underlying26 (fun w => ck63 2 false w) (fun w => findS21 _ _ w) ?_; clear M; intro w M
      have M : Mem w0 w B (LB B CO Y1 Y2 (.map #[ent (.agg (kc (sid 1))) (.pointer (some ⟨B + 18, 0, none⟩)) 0, ent (.agg (kc (sid 2))) (.pointer (some ⟨B + 20, 0, none⟩)) 1] 2) (em) (.map #[ent (.agg (kc (sid 1))) (.pointer (some ⟨B + 18, 0, none⟩)) 0] 1) (.map #[ent (.agg (kc (sid 2))) (.pointer (some ⟨B + 20, 0, none⟩)) 0] 1) CT CC CD pc pu ([.cells (kc (sid 1)) 63 (0, 0), .cells (kc (sid 2)) 63 (0, 0), .map #[ent (.int .u64 a8) (.pointer none) 0] 1, .cells CS1 73 (0, 0), .map #[ent (.int .u64 a8) (.pointer none) 0] 1, .cells CS2 73 (0, 0)])) := M
      refine L_nil (show cL _ _ _ _ _ from ?_)
      refine cL_cutP [0, 1, 2, 3, 4, 6, 7, 9, 10] [5] 8 11 [12] 13 [] #[true, true, true, true, true, true, true, true, false, true, true, false, false, false] #[true, true, true, true, true, true, true, true, true, true, true, true, false, false] (R44 w0 B 15 CT) ⟨_, M.drew, rfl, rfl, rfl⟩ ?_
      refine t_runR 210 (.pointer (some ⟨B + 8, 0, none⟩)) (fun w hr => ex_move _) ?_
      refine t_runR 211 (.pointer (some ⟨B + 8, 0, none⟩)) (fun w hr => ex_nil _) ?_
      refine t_runR 212 (.pointer (some ⟨B + 8, 16, none⟩)) (fun w hr => ex_field _ _ (fa44_11 (B + 8))) ?_
      refine t_runR 213 (.map (some (B + 4))) (fun w hr => ex_load _ _ (hr.tab T)) ?_
      refine t_runR 214 (.int .u64 a8) (fun w hr => ex_move _) ?_
      refine t_runR 216 (.agg (kc (sid 1))) (fun w hr => ex_load _ _ hr.s1) ?_
      refine t_runR 217 (.agg #[]) (fun w hr => by kernel_rfl) ?_
      refine t_runR 218 (.agg (kc (sid 2))) (fun w hr => ex_load _ _ hr.s2) ?_
      refine t_runR 219 (.agg #[]) (fun w hr => by kernel_rfl) ?_
      refine t_nil (mids_cons ?_)
      replace M := M.drew
      refine L_makeMap 215 21 M rfl ?_; clear M; intro w M
      have M : Mem w0 w B (LB B CO Y1 Y2 (.map #[ent (.agg (kc (sid 1))) (.pointer (some ⟨B + 18, 0, none⟩)) 0, ent (.agg (kc (sid 2))) (.pointer (some ⟨B + 20, 0, none⟩)) 1] 2) (em) (.map #[ent (.agg (kc (sid 1))) (.pointer (some ⟨B + 18, 0, none⟩)) 0] 1) (.map #[ent (.agg (kc (sid 2))) (.pointer (some ⟨B + 20, 0, none⟩)) 0] 1) CT CC CD pc pu ([.cells (kc (sid 1)) 63 (0, 0), .cells (kc (sid 2)) 63 (0, 0), .map #[ent (.int .u64 a8) (.pointer none) 0] 1, .cells CS1 73 (0, 0), .map #[ent (.int .u64 a8) (.pointer none) 0] 1, .cells CS2 73 (0, 0), .map #[] 0])) := M
      refine mid_nil ⟨_, M, rfl, rfl, rfl⟩ (mids_both (mids_cons ?_) (mids_cons ?_))
      · refine L_update 21 0 #[] (.agg (kc (sid 1))) (.agg #[]) M rfl Yba.underlying74 (fun w => ck63 1 false w) (fun w => find_nil w Yba.underlying63 _) ?_; clear M; intro w M
        have M : Mem w0 w B (LB B CO Y1 Y2 (.map #[ent (.agg (kc (sid 1))) (.pointer (some ⟨B + 18, 0, none⟩)) 0, ent (.agg (kc (sid 2))) (.pointer (some ⟨B + 20, 0, none⟩)) 1] 2) (em) (.map #[ent (.agg (kc (sid 1))) (.pointer (some ⟨B + 18, 0, none⟩)) 0] 1) (.map #[ent (.agg (kc (sid 2))) (.pointer (some ⟨B + 20, 0, none⟩)) 0] 1) CT CC CD pc pu ([.cells (kc (sid 1)) 63 (0, 0), .cells (kc (sid 2)) 63 (0, 0), .map #[ent (.int .u64 a8) (.pointer none) 0] 1, .cells CS1 73 (0, 0), .map #[ent (.int .u64 a8) (.pointer none) 0] 1, .cells CS2 73 (0, 0), .map #[ent (.agg (kc (sid 1))) (.agg #[]) 0] 1])) := M
        refine mid_nil ⟨_, M, rfl, rfl, rfl⟩ (mids_cons ?_)
        refine L_update 21 1 #[ent (.agg (kc (sid 1))) (.agg #[]) 0] (.agg (kc (sid 2))) (.agg #[]) M rfl Yba.underlying74 (fun w => ck63 2 false w) (fun w => findS21 _ _ w) ?_; clear M; intro w M
        have M : Mem w0 w B (LB B CO Y1 Y2 (.map #[ent (.agg (kc (sid 1))) (.pointer (some ⟨B + 18, 0, none⟩)) 0, ent (.agg (kc (sid 2))) (.pointer (some ⟨B + 20, 0, none⟩)) 1] 2) (em) (.map #[ent (.agg (kc (sid 1))) (.pointer (some ⟨B + 18, 0, none⟩)) 0] 1) (.map #[ent (.agg (kc (sid 2))) (.pointer (some ⟨B + 20, 0, none⟩)) 0] 1) CT CC CD pc pu ([.cells (kc (sid 1)) 63 (0, 0), .cells (kc (sid 2)) 63 (0, 0), .map #[ent (.int .u64 a8) (.pointer none) 0] 1, .cells CS1 73 (0, 0), .map #[ent (.int .u64 a8) (.pointer none) 0] 1, .cells CS2 73 (0, 0), .map #[ent (.agg (kc (sid 1))) (.agg #[]) 0, ent (.agg (kc (sid 2))) (.agg #[]) 1] 2])) := M
        refine mid_nil ⟨_, M, rfl, rfl, rfl⟩ (mids_after ⟨_, M, rfl, rfl, rfl⟩ (mids_cons ?_))
        refine L_run 220 (.map (some (B + 21))) M (fun w M => ex_move _) ?_
        refine mid_nil ⟨_, M, rfl, rfl, rfl⟩ (mids_nil (show wpL _ _ _ _ _ _ from ?_))
        refine L_update 4 0 #[] (.int .u64 a8) (.map (some (B + 21))) M rfl Yba.underlying27 (fun w => ck64 a8 false w) (fun w => find_nil w Yba.underlying64 _) ?_; clear M; intro w M
        have M : Mem w0 w B (LB B CO Y1 Y2 (.map #[ent (.agg (kc (sid 1))) (.pointer (some ⟨B + 18, 0, none⟩)) 0, ent (.agg (kc (sid 2))) (.pointer (some ⟨B + 20, 0, none⟩)) 1] 2) (.map #[ent (.int .u64 a8) (.map (some (B + 21))) 0] 1) (.map #[ent (.agg (kc (sid 1))) (.pointer (some ⟨B + 18, 0, none⟩)) 0] 1) (.map #[ent (.agg (kc (sid 2))) (.pointer (some ⟨B + 20, 0, none⟩)) 0] 1) CT CC CD pc pu ([.cells (kc (sid 1)) 63 (0, 0), .cells (kc (sid 2)) 63 (0, 0), .map #[ent (.int .u64 a8) (.pointer none) 0] 1, .cells CS1 73 (0, 0), .map #[ent (.int .u64 a8) (.pointer none) 0] 1, .cells CS2 73 (0, 0), .map #[ent (.agg (kc (sid 1))) (.agg #[]) 0, ent (.agg (kc (sid 2))) (.agg #[]) 1] 2])) := M
        refine L_nil (show cT 21 _ _ _ from ?_)
        exact cL_as [(0, .int .u64 a0), (1, .string a1), (2, .string a2), (3, .bool a3), (4, .int .u8 a4), (5, .bool a5), (6, .int .u8 a6), (7, .bool true), (8, .int .u64 a8), (19, .pointer (some ⟨B + 8, 0, none⟩)), (20, .pointer (some ⟨B + 10, 0, none⟩)), (21, .pointer (some ⟨B + 12, 0, none⟩)), (22, .pointer (some ⟨B + 13, 0, none⟩)), (23, .int .i64 k), (24, .map (some (B + (bif a3 then 2 else 1)))), (25, .map (some (B + (bif a3 then 1 else 2)))), (26, .pointer (some ⟨B + 14, 0, none⟩)), (27, .pointer none), (28, .pointer (some ⟨B + 15, 0, none⟩)), (29, .pointer (some ⟨B + 16, 0, none⟩)), (30, .int .u64 a8), (31, .pointer (some ⟨B + 18, 0, none⟩)), (32, .pointer (some ⟨B + 20, 0, none⟩))] (by repeat (first | exact trivial | refine And.intro rfl ?_)) (nextS rfl false CS1 CS2 _ _ S1 S2 M)
      · refine L_update 21 0 #[] (.agg (kc (sid 2))) (.agg #[]) M rfl Yba.underlying74 (fun w => ck63 2 false w) (fun w => find_nil w Yba.underlying63 _) ?_; clear M; intro w M
        have M : Mem w0 w B (LB B CO Y1 Y2 (.map #[ent (.agg (kc (sid 1))) (.pointer (some ⟨B + 18, 0, none⟩)) 0, ent (.agg (kc (sid 2))) (.pointer (some ⟨B + 20, 0, none⟩)) 1] 2) (em) (.map #[ent (.agg (kc (sid 1))) (.pointer (some ⟨B + 18, 0, none⟩)) 0] 1) (.map #[ent (.agg (kc (sid 2))) (.pointer (some ⟨B + 20, 0, none⟩)) 0] 1) CT CC CD pc pu ([.cells (kc (sid 1)) 63 (0, 0), .cells (kc (sid 2)) 63 (0, 0), .map #[ent (.int .u64 a8) (.pointer none) 0] 1, .cells CS1 73 (0, 0), .map #[ent (.int .u64 a8) (.pointer none) 0] 1, .cells CS2 73 (0, 0), .map #[ent (.agg (kc (sid 2))) (.agg #[]) 0] 1])) := M
        refine mid_nil ⟨_, M, rfl, rfl, rfl⟩ (mids_cons ?_)
        refine L_update 21 1 #[ent (.agg (kc (sid 2))) (.agg #[]) 0] (.agg (kc (sid 1))) (.agg #[]) M rfl Yba.underlying74 (fun w => ck63 1 false w) (fun w => findS12n _ _ w) ?_; clear M; intro w M
        have M : Mem w0 w B (LB B CO Y1 Y2 (.map #[ent (.agg (kc (sid 1))) (.pointer (some ⟨B + 18, 0, none⟩)) 0, ent (.agg (kc (sid 2))) (.pointer (some ⟨B + 20, 0, none⟩)) 1] 2) (em) (.map #[ent (.agg (kc (sid 1))) (.pointer (some ⟨B + 18, 0, none⟩)) 0] 1) (.map #[ent (.agg (kc (sid 2))) (.pointer (some ⟨B + 20, 0, none⟩)) 0] 1) CT CC CD pc pu ([.cells (kc (sid 1)) 63 (0, 0), .cells (kc (sid 2)) 63 (0, 0), .map #[ent (.int .u64 a8) (.pointer none) 0] 1, .cells CS1 73 (0, 0), .map #[ent (.int .u64 a8) (.pointer none) 0] 1, .cells CS2 73 (0, 0), .map #[ent (.agg (kc (sid 2))) (.agg #[]) 0, ent (.agg (kc (sid 1))) (.agg #[]) 1] 2])) := M
        refine mid_nil ⟨_, M, rfl, rfl, rfl⟩ (mids_after ⟨_, M, rfl, rfl, rfl⟩ (mids_cons ?_))
        refine L_run 220 (.map (some (B + 21))) M (fun w M => ex_move _) ?_
        refine mid_nil ⟨_, M, rfl, rfl, rfl⟩ (mids_nil (show wpL _ _ _ _ _ _ from ?_))
        refine L_update 4 0 #[] (.int .u64 a8) (.map (some (B + 21))) M rfl Yba.underlying27 (fun w => ck64 a8 false w) (fun w => find_nil w Yba.underlying64 _) ?_; clear M; intro w M
        have M : Mem w0 w B (LB B CO Y1 Y2 (.map #[ent (.agg (kc (sid 1))) (.pointer (some ⟨B + 18, 0, none⟩)) 0, ent (.agg (kc (sid 2))) (.pointer (some ⟨B + 20, 0, none⟩)) 1] 2) (.map #[ent (.int .u64 a8) (.map (some (B + 21))) 0] 1) (.map #[ent (.agg (kc (sid 1))) (.pointer (some ⟨B + 18, 0, none⟩)) 0] 1) (.map #[ent (.agg (kc (sid 2))) (.pointer (some ⟨B + 20, 0, none⟩)) 0] 1) CT CC CD pc pu ([.cells (kc (sid 1)) 63 (0, 0), .cells (kc (sid 2)) 63 (0, 0), .map #[ent (.int .u64 a8) (.pointer none) 0] 1, .cells CS1 73 (0, 0), .map #[ent (.int .u64 a8) (.pointer none) 0] 1, .cells CS2 73 (0, 0), .map #[ent (.agg (kc (sid 2))) (.agg #[]) 0, ent (.agg (kc (sid 1))) (.agg #[]) 1] 2])) := M
        refine L_nil (show cT 21 _ _ _ from ?_)
        exact cL_as [(0, .int .u64 a0), (1, .string a1), (2, .string a2), (3, .bool a3), (4, .int .u8 a4), (5, .bool a5), (6, .int .u8 a6), (7, .bool true), (8, .int .u64 a8), (19, .pointer (some ⟨B + 8, 0, none⟩)), (20, .pointer (some ⟨B + 10, 0, none⟩)), (21, .pointer (some ⟨B + 12, 0, none⟩)), (22, .pointer (some ⟨B + 13, 0, none⟩)), (23, .int .i64 k), (24, .map (some (B + (bif a3 then 2 else 1)))), (25, .map (some (B + (bif a3 then 1 else 2)))), (26, .pointer (some ⟨B + 14, 0, none⟩)), (27, .pointer none), (28, .pointer (some ⟨B + 15, 0, none⟩)), (29, .pointer (some ⟨B + 16, 0, none⟩)), (30, .int .u64 a8), (31, .pointer (some ⟨B + 18, 0, none⟩)), (32, .pointer (some ⟨B + 20, 0, none⟩))] (by repeat (first | exact trivial | refine And.intro rfl ?_)) (nextS rfl true CS1 CS2 _ _ S1 S2 M)
  | true =>
    refine cT_step 15 (cL_region ?_)
    refine L_alloc 28 16 (.agg (kc (sid 0))) M rfl z63 ?_; clear M; intro w M
    have M : Mem w0 w B (LB B CO Y1 Y2 (em) (em) (em) (em) CT CC CD pc pu ([.cells #[.pointer none, pa B 12] 60 (0, 0), .cells (kc (sid 0)) 63 (0, 0)])) := M
    refine L_alloc 29 17 (.agg (kc (sid 0))) M rfl z63 ?_; clear M; intro w M
    have M : Mem w0 w B (LB B CO Y1 Y2 (em) (em) (em) (em) CT CC CD pc pu ([.cells #[.pointer none, pa B 12] 60 (0, 0), .cells (kc (sid 0)) 63 (0, 0), .cells (kc (sid 0)) 63 (0, 0)])) := M
    refine L_nil (show cT 16 _ _ _ from ?_)
    refine cT_step 16 (cL_region ?_)
    refine L_run 168 (.pointer (some ⟨B + 16, 0, none⟩)) M (fun w M => ex_index _ _ _ (ix63 (B + 16))) ?_
    refine L_store1 16 0 (.int .u8 1) (kc (sid 0)) 63 M rfl (by simp [kc, sid]) size5 ?_; clear M; intro w M; rw [sid_set1] at M
    have M : Mem w0 w B (LB B CO Y1 Y2 (em) (em) (em) (em) CT CC CD pc pu ([.cells #[.pointer none, pa B 12] 60 (0, 0), .cells (kc (sid 1)) 63 (0, 0), .cells (kc (sid 0)) 63 (0, 0)])) := M
    refine L_nil (show cT 17 _ _ _ from ?_)
    refine cT_step 17 (cL_region ?_)
    refine L_run 169 (.pointer (some ⟨B + 17, 0, none⟩)) M (fun w M => ex_index _ _ _ (ix63 (B + 17))) ?_
    refine L_store1 17 0 (.int .u8 2) (kc (sid 0)) 63 M rfl (by simp [kc, sid]) size5 ?_; clear M; intro w M; rw [sid_set2] at M
    have M : Mem w0 w B (LB B CO Y1 Y2 (em) (em) (em) (em) CT CC CD pc pu ([.cells #[.pointer none, pa B 12] 60 (0, 0), .cells (kc (sid 1)) 63 (0, 0), .cells (kc (sid 2)) 63 (0, 0)])) := M
    refine L_nil (show cT 18 _ _ _ from ?_)
    refine cT_step 18 (cL_region ?_)
    refine L_run 170 (.int .u64 a8) M (fun w M => ex_move _) ?_
    refine L_run 30 (.int .u64 a8) M (fun w M => ex_move _) ?_
    refine L_nil (show cT 19 _ _ _ from ?_)
    refine cT_step 19 (cL_region ?_)
    refine L_run 31 (.pointer none) M (fun w M => ex_move _) ?_
    refine L_run 32 (.pointer none) M (fun w M => ex_move _) ?_
    refine L_nil (show cT 20 _ _ _ from ?_)
    cases a7 with
    | false =>
      refine cT_step 20 (cL_seq (cL_region ?_))
      refine L_run 171 (.bool false) M (fun w M => ex_move _) ?_
      refine L_nil (show cL _ _ _ _ _ from ?_)
      refine cL_if false rfl ?_
      refine cL_skip (show cT 21 _ _ _ from ?_)
      exact cL_as [(0, .int .u64 a0), (1, .string a1), (2, .string a2), (3, .bool a3), (4, .int .u8 a4), (5, .bool a5), (6, .int .u8 a6), (7, .bool false), (8, .int .u64 a8), (19, .pointer (some ⟨B + 8, 0, none⟩)), (20, .pointer (some ⟨B + 10, 0, none⟩)), (21, .pointer (some ⟨B + 12, 0, none⟩)), (22, .pointer (some ⟨B + 13, 0, none⟩)), (23, .int .i64 k), (24, .map (some (B + (bif a3 then 2 else 1)))), (25, .map (some (B + (bif a3 then 1 else 2)))), (26, .pointer (some ⟨B + 14, 0, none⟩)), (27, .pointer (some ⟨B + 15, 0, none⟩)), (28, .pointer (some ⟨B + 16, 0, none⟩)), (29, .pointer (some ⟨B + 17, 0, none⟩)), (30, .int .u64 a8), (31, .pointer none), (32, .pointer none)] (by repeat (first | exact trivial | refine And.intro rfl ?_)) (nextN rfl _ _ M)
    | true =>
      refine cT_step 20 (cL_seq (cL_region ?_))
      refine L_run 171 (.bool true) M (fun w M => ex_move _) ?_
      refine L_nil (show cL _ _ _ _ _ from ?_)
      refine cL_if true rfl ?_
      obtain ⟨CS1, hS1, S1⟩ := built73 1 ⟨B + 10, 0, none⟩ (B + 18)
      obtain ⟨CS2, hS2, S2⟩ := built73 2 ⟨B + 12, 0, none⟩ (B + 20)
      refine cL_seq (cL_region ?_)
      refine L_run 172 (.agg (kc (sid 1))) M (fun w M => ex_load _ _ (ld_sid M (j := 16) (x := 1) rfl)) ?_
      refine L_run 173 (.pointer (some ⟨B + 10, 0, none⟩)) M (fun w M => ex_move _) ?_
      refine L_makeMap 174 18 M rfl ?_; clear M; intro w M
      have M : Mem w0 w B (LB B CO Y1 Y2 (em) (em) (em) (em) CT CC CD pc pu ([.cells #[.pointer none, pa B 12] 60 (0, 0), .cells (kc (sid 1)) 63 (0, 0), .cells (kc (sid 2)) 63 (0, 0), .map #[] 0])) := M
      refine L_run 175 (.int .u64 a8) M (fun w M => ex_move _) ?_
      refine L_update 18 0 #[] (.int .u64 a8) (.pointer none) M rfl Yba.underlying66 (fun w => ck64 a8 false w) (fun w => find_nil w Yba.underlying64 _) ?_; clear M; intro w M
      have M : Mem w0 w B (LB B CO Y1 Y2 (em) (em) (em) (em) CT CC CD pc pu ([.cells #[.pointer none, pa B 12] 60 (0, 0), .cells (kc (sid 1)) 63 (0, 0), .cells (kc (sid 2)) 63 (0, 0), .map #[ent (.int .u64 a8) (.pointer none) 0] 1])) := M
      refine L_run 176 (.map (some (B + 18))) M (fun w M => ex_move _) ?_
      refine L_build 177 _ CS1 hS1 ?_
      refine L_box 178 19 CS1 M rfl ?_; clear M; intro w M
      have M : Mem w0 w B (LB B CO Y1 Y2 (em) (em) (em) (em) CT CC CD pc pu ([.cells #[.pointer none, pa B 12] 60 (0, 0), .cells (kc (sid 1)) 63 (0, 0), .cells (kc (sid 2)) 63 (0, 0), .map #[ent (.int .u64 a8) (.pointer none) 0] 1, .cells CS1 73 (0, 0)])) := M
      refine L_run 31 (.pointer (some ⟨B + 19, 0, none⟩)) M (fun w M => ex_move _) ?_
      refine L_nil (show cL _ _ _ _ _ from ?_)
      refine cL_seq (cL_region ?_)
      refine L_run 179 (.agg (kc (sid 2))) M (fun w M => ex_load _ _ (ld_sid M (j := 17) (x := 2) rfl)) ?_
      refine L_run 180 (.pointer (some ⟨B + 12, 0, none⟩)) M (fun w M => ex_move _) ?_
      refine L_makeMap 181 20 M rfl ?_; clear M; intro w M
      have M : Mem w0 w B (LB B CO Y1 Y2 (em) (em) (em) (em) CT CC CD pc pu ([.cells #[.pointer none, pa B 12] 60 (0, 0), .cells (kc (sid 1)) 63 (0, 0), .cells (kc (sid 2)) 63 (0, 0), .map #[ent (.int .u64 a8) (.pointer none) 0] 1, .cells CS1 73 (0, 0), .map #[] 0])) := M
      refine L_run 182 (.int .u64 a8) M (fun w M => ex_move _) ?_
      refine L_update 20 0 #[] (.int .u64 a8) (.pointer none) M rfl Yba.underlying66 (fun w => ck64 a8 false w) (fun w => find_nil w Yba.underlying64 _) ?_; clear M; intro w M
      have M : Mem w0 w B (LB B CO Y1 Y2 (em) (em) (em) (em) CT CC CD pc pu ([.cells #[.pointer none, pa B 12] 60 (0, 0), .cells (kc (sid 1)) 63 (0, 0), .cells (kc (sid 2)) 63 (0, 0), .map #[ent (.int .u64 a8) (.pointer none) 0] 1, .cells CS1 73 (0, 0), .map #[ent (.int .u64 a8) (.pointer none) 0] 1])) := M
      refine L_run 183 (.map (some (B + 20))) M (fun w M => ex_move _) ?_
      refine L_build 184 _ CS2 hS2 ?_
      refine L_box 185 21 CS2 M rfl ?_; clear M; intro w M
      have M : Mem w0 w B (LB B CO Y1 Y2 (em) (em) (em) (em) CT CC CD pc pu ([.cells #[.pointer none, pa B 12] 60 (0, 0), .cells (kc (sid 1)) 63 (0, 0), .cells (kc (sid 2)) 63 (0, 0), .map #[ent (.int .u64 a8) (.pointer none) 0] 1, .cells CS1 73 (0, 0), .map #[ent (.int .u64 a8) (.pointer none) 0] 1, .cells CS2 73 (0, 0)])) := M
      refine L_run 32 (.pointer (some ⟨B + 21, 0, none⟩)) M (fun w M => ex_move _) ?_
      refine L_nil (show cL _ _ _ _ _ from ?_)
      have hC := M.drew1
      refine cL_seq (cL_cut [0, 1, 2, 3, 4, 5] 6 [] ?_)
      refine q_run 186 (.pointer (some ⟨B + 10, 0, none⟩)) hC (fun w M => ex_move _) ?_
      refine q_run 187 (.pointer (some ⟨B + 10, 0, none⟩)) hC (fun w M => ex_nil _) ?_
      refine q_run 188 (.pointer (some ⟨B + 10, 18, none⟩)) hC (fun w M => ex_field _ _ (fa57_9 (B + 10))) ?_
      refine q_run 189 (.map (some (B + 9))) hC (fun w M => ex_load _ _ (run_load1 M (j := 10) (i := 18) rfl C.sessions Yba.underlying26 rfl)) ?_
      refine q_run 190 (.agg (kc (sid 1))) hC (fun w M => ex_load _ _ (ld_sid M (j := 16) (x := 1) rfl)) ?_
      refine q_run 191 (.pointer (some ⟨B + 19, 0, none⟩)) hC (fun w M => ex_move _) ?_
      refine q_then ?_
      clear hC; replace M := M.drew
      refine L_update 9 0 #[] (.agg (kc (sid 1))) (.pointer (some ⟨B + 19, 0, none⟩)) M rfl Yba.underlying26 (fun w => ck63 1 false w) (fun w => find_nil w Yba.underlying63 _) ?_; clear M; intro w M
      have M : Mem w0 w B (LB B CO Y1 Y2 (em) (em) (.map #[ent (.agg (kc (sid 1))) (.pointer (some ⟨B + 19, 0, none⟩)) 0] 1) (em) CT CC CD pc pu ([.cells #[.pointer none, pa B 12] 60 (0, 0), .cells (kc (sid 1)) 63 (0, 0), .cells (kc (sid 2)) 63 (0, 0), .map #[ent (.int .u64 a8) (.pointer none) 0] 1, .cells CS1 73 (0, 0), .map #[ent (.int .u64 a8) (.pointer none) 0] 1, .cells CS2 73 (0, 0)])) := M
      refine L_nil (show cL _ _ _ _ _ from ?_)
      have hC := M.drew1
      refine cL_seq (cL_cut [0, 1, 2, 3, 4, 5] 6 [] ?_)
      refine q_run 192 (.pointer (some ⟨B + 12, 0, none⟩)) hC (fun w M => ex_move _) ?_
      refine q_run 193 (.pointer (some ⟨B + 12, 0, none⟩)) hC (fun w M => ex_nil _) ?_
      refine q_run 194 (.pointer (some ⟨B + 12, 18, none⟩)) hC (fun w M => ex_field _ _ (fa57_9 (B + 12))) ?_
      refine q_run 195 (.map (some (B + 11))) hC (fun w M => ex_load _ _ (run_load1 M (j := 12) (i := 18) rfl D.sessions Yba.underlying26 rfl)) ?_
      refine q_run 196 (.agg (kc (sid 2))) hC (fun w M => ex_load _ _ (ld_sid M (j := 17) (x := 2) rfl)) ?_
      refine q_run 197 (.pointer (some ⟨B + 21, 0, none⟩)) hC (fun w M => ex_move _) ?_
      refine q_then ?_
      clear hC; replace M := M.drew
      refine L_update 11 0 #[] (.agg (kc (sid 2))) (.pointer (some ⟨B + 21, 0, none⟩)) M rfl Yba.underlying26 (fun w => ck63 2 false w) (fun w => find_nil w Yba.underlying63 _) ?_; clear M; intro w M
      have M : Mem w0 w B (LB B CO Y1 Y2 (em) (em) (.map #[ent (.agg (kc (sid 1))) (.pointer (some ⟨B + 19, 0, none⟩)) 0] 1) (.map #[ent (.agg (kc (sid 2))) (.pointer (some ⟨B + 21, 0, none⟩)) 0] 1) CT CC CD pc pu ([.cells #[.pointer none, pa B 12] 60 (0, 0), .cells (kc (sid 1)) 63 (0, 0), .cells (kc (sid 2)) 63 (0, 0), .map #[ent (.int .u64 a8) (.pointer none) 0] 1, .cells CS1 73 (0, 0), .map #[ent (.int .u64 a8) (.pointer none) 0] 1, .cells CS2 73 (0, 0)])) := M
      refine L_nil (show cL _ _ _ _ _ from ?_)
      have hC := M.drew1
      refine cL_seq (cL_cut [0, 1, 2, 3, 4, 5] 6 [] ?_)
      refine q_run 198 (.pointer (some ⟨B + 8, 0, none⟩)) hC (fun w M => ex_move _) ?_
      refine q_run 199 (.pointer (some ⟨B + 8, 0, none⟩)) hC (fun w M => ex_nil _) ?_
      refine q_run 200 (.pointer (some ⟨B + 8, 15, none⟩)) hC (fun w M => ex_field _ _ (fa44_10 (B + 8))) ?_
      refine q_run 201 (.map (some (B + 3))) hC (fun w M => ex_load _ _ (run_load1 M (j := 8) (i := 15) rfl T.sessions Yba.underlying26 rfl)) ?_
      refine q_run 202 (.agg (kc (sid 1))) hC (fun w M => ex_load _ _ (ld_sid M (j := 16) (x := 1) rfl)) ?_
      refine q_run 203 (.pointer (some ⟨B + 19, 0, none⟩)) hC (fun w M => ex_move _) ?_
      refine q_then ?_
      clear hC; replace M := M.drew
      refine L_update 3 0 #[] (.agg (kc (sid 1))) (.pointer (some ⟨B + 19, 0, none⟩)) M rfl Yba.underlying26 (fun w => ck63 1 false w) (fun w => find_nil w Yba.underlying63 _) ?_; clear M; intro w M
      have M : Mem w0 w B (LB B CO Y1 Y2 (.map #[ent (.agg (kc (sid 1))) (.pointer (some ⟨B + 19, 0, none⟩)) 0] 1) (em) (.map #[ent (.agg (kc (sid 1))) (.pointer (some ⟨B + 19, 0, none⟩)) 0] 1) (.map #[ent (.agg (kc (sid 2))) (.pointer (some ⟨B + 21, 0, none⟩)) 0] 1) CT CC CD pc pu ([.cells #[.pointer none, pa B 12] 60 (0, 0), .cells (kc (sid 1)) 63 (0, 0), .cells (kc (sid 2)) 63 (0, 0), .map #[ent (.int .u64 a8) (.pointer none) 0] 1, .cells CS1 73 (0, 0), .map #[ent (.int .u64 a8) (.pointer none) 0] 1, .cells CS2 73 (0, 0)])) := M
      refine L_nil (show cL _ _ _ _ _ from ?_)
      have hC := M.drew1
      refine cL_seq (cL_cut [0, 1, 2, 3, 4, 5] 6 [] ?_)
      refine q_run 204 (.pointer (some ⟨B + 8, 0, none⟩)) hC (fun w M => ex_move _) ?_
      refine q_run 205 (.pointer (some ⟨B + 8, 0, none⟩)) hC (fun w M => ex_nil _) ?_
      refine q_run 206 (.pointer (some ⟨B + 8, 15, none⟩)) hC (fun w M => ex_field _ _ (fa44_10 (B + 8))) ?_
      refine q_run 207 (.map (some (B + 3))) hC (fun w M => ex_load _ _ (run_load1 M (j := 8) (i := 15) rfl T.sessions Yba.underlying26 rfl)) ?_
      refine q_run 208 (.agg (kc (sid 2))) hC (fun w M => ex_load _ _ (ld_sid M (j := 17) (x := 2) rfl)) ?_
      refine q_run 209 (.pointer (some ⟨B + 21, 0, none⟩)) hC (fun w M => ex_move _) ?_
      refine q_then ?_
      clear hC; replace M := M.drew
      refine L_update 3 1 #[ent (.agg (kc (sid 1))) (.pointer (some ⟨B + 19, 0, none⟩)) 0] (.agg (kc (sid 2))) (.pointer (some ⟨B + 21, 0, none⟩)) M rfl Yba.underlying26 (fun w => ck63 2 false w) (fun w => findS21 _ _ w) ?_; clear M; intro w M
      have M : Mem w0 w B (LB B CO Y1 Y2 (.map #[ent (.agg (kc (sid 1))) (.pointer (some ⟨B + 19, 0, none⟩)) 0, ent (.agg (kc (sid 2))) (.pointer (some ⟨B + 21, 0, none⟩)) 1] 2) (em) (.map #[ent (.agg (kc (sid 1))) (.pointer (some ⟨B + 19, 0, none⟩)) 0] 1) (.map #[ent (.agg (kc (sid 2))) (.pointer (some ⟨B + 21, 0, none⟩)) 0] 1) CT CC CD pc pu ([.cells #[.pointer none, pa B 12] 60 (0, 0), .cells (kc (sid 1)) 63 (0, 0), .cells (kc (sid 2)) 63 (0, 0), .map #[ent (.int .u64 a8) (.pointer none) 0] 1, .cells CS1 73 (0, 0), .map #[ent (.int .u64 a8) (.pointer none) 0] 1, .cells CS2 73 (0, 0)])) := M
      refine L_nil (show cL _ _ _ _ _ from ?_)
      refine cL_cutP [0, 1, 2, 3, 4, 6, 7, 9, 10] [5] 8 11 [12] 13 [] #[true, true, true, true, true, true, true, true, false, true, true, false, false, false] #[true, true, true, true, true, true, true, true, true, true, true, true, false, false] (R44 w0 B 16 CT) ⟨_, M.drew, rfl, rfl, rfl⟩ ?_
      refine t_runR 210 (.pointer (some ⟨B + 8, 0, none⟩)) (fun w hr => ex_move _) ?_
      refine t_runR 211 (.pointer (some ⟨B + 8, 0, none⟩)) (fun w hr => ex_nil _) ?_
      refine t_runR 212 (.pointer (some ⟨B + 8, 16, none⟩)) (fun w hr => ex_field _ _ (fa44_11 (B + 8))) ?_
      refine t_runR 213 (.map (some (B + 4))) (fun w hr => ex_load _ _ (hr.tab T)) ?_
      refine t_runR 214 (.int .u64 a8) (fun w hr => ex_move _) ?_
      refine t_runR 216 (.agg (kc (sid 1))) (fun w hr => ex_load _ _ hr.s1) ?_
      refine t_runR 217 (.agg #[]) (fun w hr => by kernel_rfl) ?_
      refine t_runR 218 (.agg (kc (sid 2))) (fun w hr => ex_load _ _ hr.s2) ?_
      refine t_runR 219 (.agg #[]) (fun w hr => by kernel_rfl) ?_
      refine t_nil (mids_cons ?_)
      replace M := M.drew
      refine L_makeMap 215 22 M rfl ?_; clear M; intro w M
      have M : Mem w0 w B (LB B CO Y1 Y2 (.map #[ent (.agg (kc (sid 1))) (.pointer (some ⟨B + 19, 0, none⟩)) 0, ent (.agg (kc (sid 2))) (.pointer (some ⟨B + 21, 0, none⟩)) 1] 2) (em) (.map #[ent (.agg (kc (sid 1))) (.pointer (some ⟨B + 19, 0, none⟩)) 0] 1) (.map #[ent (.agg (kc (sid 2))) (.pointer (some ⟨B + 21, 0, none⟩)) 0] 1) CT CC CD pc pu ([.cells #[.pointer none, pa B 12] 60 (0, 0), .cells (kc (sid 1)) 63 (0, 0), .cells (kc (sid 2)) 63 (0, 0), .map #[ent (.int .u64 a8) (.pointer none) 0] 1, .cells CS1 73 (0, 0), .map #[ent (.int .u64 a8) (.pointer none) 0] 1, .cells CS2 73 (0, 0), .map #[] 0])) := M
      refine mid_nil ⟨_, M, rfl, rfl, rfl⟩ (mids_both (mids_cons ?_) (mids_cons ?_))
      · refine L_update 22 0 #[] (.agg (kc (sid 1))) (.agg #[]) M rfl Yba.underlying74 (fun w => ck63 1 false w) (fun w => find_nil w Yba.underlying63 _) ?_; clear M; intro w M
        have M : Mem w0 w B (LB B CO Y1 Y2 (.map #[ent (.agg (kc (sid 1))) (.pointer (some ⟨B + 19, 0, none⟩)) 0, ent (.agg (kc (sid 2))) (.pointer (some ⟨B + 21, 0, none⟩)) 1] 2) (em) (.map #[ent (.agg (kc (sid 1))) (.pointer (some ⟨B + 19, 0, none⟩)) 0] 1) (.map #[ent (.agg (kc (sid 2))) (.pointer (some ⟨B + 21, 0, none⟩)) 0] 1) CT CC CD pc pu ([.cells #[.pointer none, pa B 12] 60 (0, 0), .cells (kc (sid 1)) 63 (0, 0), .cells (kc (sid 2)) 63 (0, 0), .map #[ent (.int .u64 a8) (.pointer none) 0] 1, .cells CS1 73 (0, 0), .map #[ent (.int .u64 a8) (.pointer none) 0] 1, .cells CS2 73 (0, 0), .map #[ent (.agg (kc (sid 1))) (.agg #[]) 0] 1])) := M
        refine mid_nil ⟨_, M, rfl, rfl, rfl⟩ (mids_cons ?_)
        refine L_update 22 1 #[ent (.agg (kc (sid 1))) (.agg #[]) 0] (.agg (kc (sid 2))) (.agg #[]) M rfl Yba.underlying74 (fun w => ck63 2 false w) (fun w => findS21 _ _ w) ?_; clear M; intro w M
        have M : Mem w0 w B (LB B CO Y1 Y2 (.map #[ent (.agg (kc (sid 1))) (.pointer (some ⟨B + 19, 0, none⟩)) 0, ent (.agg (kc (sid 2))) (.pointer (some ⟨B + 21, 0, none⟩)) 1] 2) (em) (.map #[ent (.agg (kc (sid 1))) (.pointer (some ⟨B + 19, 0, none⟩)) 0] 1) (.map #[ent (.agg (kc (sid 2))) (.pointer (some ⟨B + 21, 0, none⟩)) 0] 1) CT CC CD pc pu ([.cells #[.pointer none, pa B 12] 60 (0, 0), .cells (kc (sid 1)) 63 (0, 0), .cells (kc (sid 2)) 63 (0, 0), .map #[ent (.int .u64 a8) (.pointer none) 0] 1, .cells CS1 73 (0, 0), .map #[ent (.int .u64 a8) (.pointer none) 0] 1, .cells CS2 73 (0, 0), .map #[ent (.agg (kc (sid 1))) (.agg #[]) 0, ent (.agg (kc (sid 2))) (.agg #[]) 1] 2])) := M
        refine mid_nil ⟨_, M, rfl, rfl, rfl⟩ (mids_after ⟨_, M, rfl, rfl, rfl⟩ (mids_cons ?_))
        refine L_run 220 (.map (some (B + 22))) M (fun w M => ex_move _) ?_
        refine mid_nil ⟨_, M, rfl, rfl, rfl⟩ (mids_nil (show wpL _ _ _ _ _ _ from ?_))
        refine L_update 4 0 #[] (.int .u64 a8) (.map (some (B + 22))) M rfl Yba.underlying27 (fun w => ck64 a8 false w) (fun w => find_nil w Yba.underlying64 _) ?_; clear M; intro w M
        have M : Mem w0 w B (LB B CO Y1 Y2 (.map #[ent (.agg (kc (sid 1))) (.pointer (some ⟨B + 19, 0, none⟩)) 0, ent (.agg (kc (sid 2))) (.pointer (some ⟨B + 21, 0, none⟩)) 1] 2) (.map #[ent (.int .u64 a8) (.map (some (B + 22))) 0] 1) (.map #[ent (.agg (kc (sid 1))) (.pointer (some ⟨B + 19, 0, none⟩)) 0] 1) (.map #[ent (.agg (kc (sid 2))) (.pointer (some ⟨B + 21, 0, none⟩)) 0] 1) CT CC CD pc pu ([.cells #[.pointer none, pa B 12] 60 (0, 0), .cells (kc (sid 1)) 63 (0, 0), .cells (kc (sid 2)) 63 (0, 0), .map #[ent (.int .u64 a8) (.pointer none) 0] 1, .cells CS1 73 (0, 0), .map #[ent (.int .u64 a8) (.pointer none) 0] 1, .cells CS2 73 (0, 0), .map #[ent (.agg (kc (sid 1))) (.agg #[]) 0, ent (.agg (kc (sid 2))) (.agg #[]) 1] 2])) := M
        refine L_nil (show cT 21 _ _ _ from ?_)
        exact cL_as [(0, .int .u64 a0), (1, .string a1), (2, .string a2), (3, .bool a3), (4, .int .u8 a4), (5, .bool a5), (6, .int .u8 a6), (7, .bool true), (8, .int .u64 a8), (19, .pointer (some ⟨B + 8, 0, none⟩)), (20, .pointer (some ⟨B + 10, 0, none⟩)), (21, .pointer (some ⟨B + 12, 0, none⟩)), (22, .pointer (some ⟨B + 13, 0, none⟩)), (23, .int .i64 k), (24, .map (some (B + (bif a3 then 2 else 1)))), (25, .map (some (B + (bif a3 then 1 else 2)))), (26, .pointer (some ⟨B + 14, 0, none⟩)), (27, .pointer (some ⟨B + 15, 0, none⟩)), (28, .pointer (some ⟨B + 16, 0, none⟩)), (29, .pointer (some ⟨B + 17, 0, none⟩)), (30, .int .u64 a8), (31, .pointer (some ⟨B + 19, 0, none⟩)), (32, .pointer (some ⟨B + 21, 0, none⟩))] (by repeat (first | exact trivial | refine And.intro rfl ?_)) (nextS rfl false CS1 CS2 _ _ S1 S2 M)
      · refine L_update 22 0 #[] (.agg (kc (sid 2))) (.agg #[]) M rfl Yba.underlying74 (fun w => ck63 2 false w) (fun w => find_nil w Yba.underlying63 _) ?_; clear M; intro w M
        have M : Mem w0 w B (LB B CO Y1 Y2 (.map #[ent (.agg (kc (sid 1))) (.pointer (some ⟨B + 19, 0, none⟩)) 0, ent (.agg (kc (sid 2))) (.pointer (some ⟨B + 21, 0, none⟩)) 1] 2) (em) (.map #[ent (.agg (kc (sid 1))) (.pointer (some ⟨B + 19, 0, none⟩)) 0] 1) (.map #[ent (.agg (kc (sid 2))) (.pointer (some ⟨B + 21, 0, none⟩)) 0] 1) CT CC CD pc pu ([.cells #[.pointer none, pa B 12] 60 (0, 0), .cells (kc (sid 1)) 63 (0, 0), .cells (kc (sid 2)) 63 (0, 0), .map #[ent (.int .u64 a8) (.pointer none) 0] 1, .cells CS1 73 (0, 0), .map #[ent (.int .u64 a8) (.pointer none) 0] 1, .cells CS2 73 (0, 0), .map #[ent (.agg (kc (sid 2))) (.agg #[]) 0] 1])) := M
        refine mid_nil ⟨_, M, rfl, rfl, rfl⟩ (mids_cons ?_)
        refine L_update 22 1 #[ent (.agg (kc (sid 2))) (.agg #[]) 0] (.agg (kc (sid 1))) (.agg #[]) M rfl Yba.underlying74 (fun w => ck63 1 false w) (fun w => findS12n _ _ w) ?_; clear M; intro w M
        have M : Mem w0 w B (LB B CO Y1 Y2 (.map #[ent (.agg (kc (sid 1))) (.pointer (some ⟨B + 19, 0, none⟩)) 0, ent (.agg (kc (sid 2))) (.pointer (some ⟨B + 21, 0, none⟩)) 1] 2) (em) (.map #[ent (.agg (kc (sid 1))) (.pointer (some ⟨B + 19, 0, none⟩)) 0] 1) (.map #[ent (.agg (kc (sid 2))) (.pointer (some ⟨B + 21, 0, none⟩)) 0] 1) CT CC CD pc pu ([.cells #[.pointer none, pa B 12] 60 (0, 0), .cells (kc (sid 1)) 63 (0, 0), .cells (kc (sid 2)) 63 (0, 0), .map #[ent (.int .u64 a8) (.pointer none) 0] 1, .cells CS1 73 (0, 0), .map #[ent (.int .u64 a8) (.pointer none) 0] 1, .cells CS2 73 (0, 0), .map #[ent (.agg (kc (sid 2))) (.agg #[]) 0, ent (.agg (kc (sid 1))) (.agg #[]) 1] 2])) := M
        refine mid_nil ⟨_, M, rfl, rfl, rfl⟩ (mids_after ⟨_, M, rfl, rfl, rfl⟩ (mids_cons ?_))
        refine L_run 220 (.map (some (B + 22))) M (fun w M => ex_move _) ?_
        refine mid_nil ⟨_, M, rfl, rfl, rfl⟩ (mids_nil (show wpL _ _ _ _ _ _ from ?_))
        refine L_update 4 0 #[] (.int .u64 a8) (.map (some (B + 22))) M rfl Yba.underlying27 (fun w => ck64 a8 false w) (fun w => find_nil w Yba.underlying64 _) ?_; clear M; intro w M
        have M : Mem w0 w B (LB B CO Y1 Y2 (.map #[ent (.agg (kc (sid 1))) (.pointer (some ⟨B + 19, 0, none⟩)) 0, ent (.agg (kc (sid 2))) (.pointer (some ⟨B + 21, 0, none⟩)) 1] 2) (.map #[ent (.int .u64 a8) (.map (some (B + 22))) 0] 1) (.map #[ent (.agg (kc (sid 1))) (.pointer (some ⟨B + 19, 0, none⟩)) 0] 1) (.map #[ent (.agg (kc (sid 2))) (.pointer (some ⟨B + 21, 0, none⟩)) 0] 1) CT CC CD pc pu ([.cells #[.pointer none, pa B 12] 60 (0, 0), .cells (kc (sid 1)) 63 (0, 0), .cells (kc (sid 2)) 63 (0, 0), .map #[ent (.int .u64 a8) (.pointer none) 0] 1, .cells CS1 73 (0, 0), .map #[ent (.int .u64 a8) (.pointer none) 0] 1, .cells CS2 73 (0, 0), .map #[ent (.agg (kc (sid 2))) (.agg #[]) 0, ent (.agg (kc (sid 1))) (.agg #[]) 1] 2])) := M
        refine L_nil (show cT 21 _ _ _ from ?_)
        exact cL_as [(0, .int .u64 a0), (1, .string a1), (2, .string a2), (3, .bool a3), (4, .int .u8 a4), (5, .bool a5), (6, .int .u8 a6), (7, .bool true), (8, .int .u64 a8), (19, .pointer (some ⟨B + 8, 0, none⟩)), (20, .pointer (some ⟨B + 10, 0, none⟩)), (21, .pointer (some ⟨B + 12, 0, none⟩)), (22, .pointer (some ⟨B + 13, 0, none⟩)), (23, .int .i64 k), (24, .map (some (B + (bif a3 then 2 else 1)))), (25, .map (some (B + (bif a3 then 1 else 2)))), (26, .pointer (some ⟨B + 14, 0, none⟩)), (27, .pointer (some ⟨B + 15, 0, none⟩)), (28, .pointer (some ⟨B + 16, 0, none⟩)), (29, .pointer (some ⟨B + 17, 0, none⟩)), (30, .int .u64 a8), (31, .pointer (some ⟨B + 19, 0, none⟩)), (32, .pointer (some ⟨B + 21, 0, none⟩))] (by repeat (first | exact trivial | refine And.intro rfl ?_)) (nextS rfl true CS1 CS2 _ _ S1 S2 M)
end Go.Proofs.Ybulkdufc
