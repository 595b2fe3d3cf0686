/-
  The last part: the tests of the sessions; the end.
-/
import Derived.Test.YbulkdufcPhD0
namespace Go.Proofs.Ybulkdufc
open Go.RowKit Go.Split
theorem g_app {L l : List Obj} {k : Nat} {x : Obj} (h : L[k]? = some x) : (L ++ l)[k]? = some x := by rw [List.getElem?_append_left (List.getElem?_eq_some_iff.1 h).1]; exact h
theorem g_set {L : List Obj} {j k : Nat} {x o : Obj} (h : L[k]? = some x) (hne : j ≠ k) : (L.set j o)[k]? = some x := by rw [List.getElem?_set_ne hne]; exact h
theorem z31 : (Yba.prog.info? 31).map (·.zero) = some (some (.agg #[])) := by kernel_rfl
theorem size31 : (Yba.prog.info? 31).map (·.size) = some 0 := by kernel_rfl
section
variable {P : Program} {ops : Array Oper} {Q : Exit → Act → World → Prop} {rest : List Oper} {op : Oper} {s : Nat → Value} {l : List (Nat × Value)} {w w0 : World} {B : Nat} {L : List Obj}
theorem L_storeRow (j : Nat) (cells C : Array Value) (t : TypeId) {ty : TypeId} {x y : Operand} (M : Mem w0 w B L) (hb : L[j]? = some (.cells C t (0, 0))) (hs : cells.size = C.size) (hi : (P.info? ty).map (·.size) = some cells.size) (h1 : cells.all (·.oneCell') = true)
    (h : ∀ w1, Mem w0 w1 B (L.set j (.cells cells t (0, 0))) → wpL P ops Q rest (look l s) w1)
    (ho : op.op = .store ty x y := by rfl) (hx : ev (look l s) x = .pointer (some ⟨B + j, 0, none⟩) := by rfl) (hy : ev (look l s) y = .agg cells := by rfl) (hgd : op.guard = none := by rfl) (hd : op.dst = none := by rfl) : wpL P ops Q (op :: rest) (look l s) w := fun _ F =>
  wl_store_row hgd ty x y ho (B + j) cells C t (by rw [F.ev]; exact hx) (by rw [F.ev]; exact hy) (M.get hb) hs hi h1 fun w1 u => by rw [hd]; exact h w1 (M.set (List.getElem?_eq_some_iff.1 hb).1 u) _ F
end
theorem cT_ret {R : Ending → World → Prop} {s : Nat → Value} {w : World} (h18 : s 18 = .bool true) (hR : R (.returned (.bool true)) w) : cT 37 (bodyPost Yba.prog Yba.f3 R) s w := fun a F => by
  rw [show dropC 37 (Yba.f3.body.getD .skip) = .ret from by kernel_rfl]
  exact wp_ret (ret_true h18 hR a F)
set_option maxRecDepth 100000 in
theorem phZ (w0 w : World) (B : Nat) (R : Ending → World → Prop) (s : Nat → Value) (L : List Obj) (CT : Array Value) (T : Tab CT B) (hT : L[8]? = some (.cells CT 44 (0, 0))) (e5 : L[5]? = some (.map #[] 0)) (e6 : L[6]? = some (.map #[] 0)) (e7 : L[7]? = some (.map #[] 0)) (M : Mem w0 w B L) (hR : ∀ w', Below B w0 w' → R (.returned (.bool true)) w') :
    cT 36 (bodyPost Yba.prog Yba.f3 R) (look [(19, .pointer (some ⟨B + 8, 0, none⟩))] s) w := by
  refine cT_step 36 (cL_region ?_)
  refine L_run 445 (.pointer (some ⟨B + 8, 0, none⟩)) M (fun w M => ex_move _) ?_
  refine L_run 446 (.pointer (some ⟨B + 8, 0, none⟩)) M (fun w M => ex_nil _) ?_
  refine L_run 447 (.pointer (some ⟨B + 8, 17, none⟩)) M (fun w M => ex_field _ _ (fa44_12 (B + 8))) ?_
  refine L_run 448 (.map (some (B + 5))) M (fun w M => ex_load _ _ (run_load1 M (j := 8) (i := 17) hT T.opens Yba.underlying28 rfl)) ?_
  refine L_run 449 (.int .i64 0) M (fun w M => ex_len _ _ (fun ty => run_lenmap ty Yba.underlying28 (M.get (i := 5) e5))) ?_
  refine L_run 450 (.bool true) M (fun w M => ex_bin (.int .i64 0) (.int .i64 0) (.bool true) (gdi _ _ _ _ _ _ _ w) (by kernel_rfl)) ?_
  refine L_run 451 (.bool true) M (fun w M => ex_move _) ?_
  refine L_run 452 (.pointer (some ⟨B + 8, 0, none⟩)) M (fun w M => ex_move _) ?_
  refine L_run 453 (.pointer (some ⟨B + 8, 0, none⟩)) M (fun w M => ex_nil _) ?_
  refine L_run 454 (.pointer (some ⟨B + 8, 18, none⟩)) M (fun w M => ex_field _ _ (fa44_13 (B + 8))) ?_
  refine L_run 455 (.map (some (B + 6))) M (fun w M => ex_load _ _ (run_load1 M (j := 8) (i := 18) hT T.delegations Yba.underlying29 rfl)) ?_
  refine L_run 456 (.int .i64 0) M (fun w M => ex_len _ _ (fun ty => run_lenmap ty Yba.underlying29 (M.get (i := 6) e6))) ?_
  refine L_run 457 (.bool true) M (fun w M => ex_bin (.int .i64 0) (.int .i64 0) (.bool true) (gdi _ _ _ _ _ _ _ w) (by kernel_rfl)) ?_
  refine L_run 458 (.bool true) M (fun w M => ex_pick true _) ?_
  refine L_run 459 (.bool true) M (fun w M => ex_move _) ?_
  refine L_run 460 (.pointer (some ⟨B + 8, 0, none⟩)) M (fun w M => ex_move _) ?_
  refine L_run 461 (.pointer (some ⟨B + 8, 0, none⟩)) M (fun w M => ex_nil _) ?_
  refine L_run 462 (.pointer (some ⟨B + 8, 19, none⟩)) M (fun w M => ex_field _ _ (fa44_14 (B + 8))) ?_
  refine L_run 463 (.map (some (B + 7))) M (fun w M => ex_load _ _ (run_load1 M (j := 8) (i := 19) hT T.files Yba.underlying30 rfl)) ?_
  refine L_run 464 (.int .i64 0) M (fun w M => ex_len _ _ (fun ty => run_lenmap ty Yba.underlying30 (M.get (i := 7) e7))) ?_
  refine L_run 465 (.bool true) M (fun w M => ex_bin (.int .i64 0) (.int .i64 0) (.bool true) (gdi _ _ _ _ _ _ _ w) (by kernel_rfl)) ?_
  refine L_run 466 (.bool true) M (fun w M => ex_pick true _) ?_
  refine L_run 18 (.bool true) M (fun w M => ex_move _) ?_
  refine L_nil (show cT 37 _ _ _ from ?_)
  exact cT_ret rfl (hR _ M.below)
set_option maxRecDepth 100000 in
theorem phF_n (a0 : Int) (a1 a2 : ByteArray) (a3 : Bool) (a4 : Int) (a5 : Bool) (a6 : Int) (a8 : Int) (w0 w : World) (B : Nat) (R : Ending → World → Prop) (s : Nat → Value) (r : Int) (st kept : Bool) (pc1 pu1 : Option Addr) (L : List Obj) (FE : FinE L B a0 a1 a2 st kept (jo3 a3) (jt3 a3) pc1 pu1 r) (FN : FinN L) (M : Mem w0 w B L) (hR : ∀ w', Below B w0 w' → R (.returned (.bool true)) w') :
    cT 35 (bodyPost Yba.prog Yba.f3 R) (look [(0, .int .u64 a0), (1, .string a1), (2, .string a2), (3, .bool a3), (4, .int .u8 a4), (5, .bool a5), (6, .int .u8 a6), (7, .bool false), (8, .int .u64 a8), (19, .pointer (some ⟨B + 8, 0, none⟩)), (20, .pointer (some ⟨B + 10, 0, none⟩)), (21, .pointer (some ⟨B + 12, 0, none⟩)), (22, .pointer (some ⟨B + 13, 0, none⟩)), (26, .pointer (some ⟨B + 14, 0, none⟩)), (27, .pointer (bif st then some ⟨B + 15, 0, none⟩ else none)), (28, .pointer (some ⟨B + nn st, 0, none⟩)), (29, .pointer (some ⟨B + (nn st + 1), 0, none⟩)), (30, .int .u64 a8), (31, .pointer (bif false then some ⟨B + (nn st + 3), 0, none⟩ else none)), (32, .pointer (bif false then some ⟨B + (nn st + 5), 0, none⟩ else none)), (24, .map (some (B + jo3 a3))), (25, .map (some (B + jt3 a3))), (33, .pointer pc1), (34, .pointer pu1), (35, .bool kept)] s) w := by
  obtain ⟨CT, hT, T⟩ := FE.tab
  refine cT_step 35 (cL_seq (cL_region ?_))
  refine L_run 363 (.bool false) M (fun w M => ex_move _) ?_
  refine L_nil (show cL _ _ _ _ _ from ?_)
  refine cL_if false rfl ?_
  refine cL_seq (cL_region ?_)
  refine L_run 431 (.pointer (some ⟨B + 8, 0, none⟩)) M (fun w M => ex_move _) ?_
  refine L_run 432 (.pointer (some ⟨B + 8, 0, none⟩)) M (fun w M => ex_nil _) ?_
  refine L_run 433 (.pointer (some ⟨B + 8, 15, none⟩)) M (fun w M => ex_field _ _ (fa44_10 (B + 8))) ?_
  refine L_run 434 (.map (some (B + 3))) M (fun w M => ex_load _ _ (run_load1 M (j := 8) (i := 15) hT T.sessions Yba.underlying26 rfl)) ?_
  refine L_run 435 (.int .i64 0) M (fun w M => ex_len _ _ (fun ty => run_lenmap ty Yba.underlying26 (M.get (i := 3) FN.sess))) ?_
  refine L_run 436 (.bool false) M (fun w M => ex_bin (.int .i64 0) (.int .i64 0) (.bool false) (gdi _ _ _ _ _ _ _ w) (by kernel_rfl)) ?_
  refine L_run 437 (.bool false) M (fun w M => ex_move _) ?_
  refine L_run 438 (.pointer (some ⟨B + 8, 0, none⟩)) M (fun w M => ex_move _) ?_
  refine L_run 439 (.pointer (some ⟨B + 8, 0, none⟩)) M (fun w M => ex_nil _) ?_
  refine L_run 440 (.pointer (some ⟨B + 8, 16, none⟩)) M (fun w M => ex_field _ _ (fa44_11 (B + 8))) ?_
  refine L_run 441 (.map (some (B + 4))) M (fun w M => ex_load _ _ (run_load1 M (j := 8) (i := 16) hT T.conns Yba.underlying27 rfl)) ?_
  refine L_run 442 (.int .i64 0) M (fun w M => ex_len _ _ (fun ty => run_lenmap ty Yba.underlying27 (M.get (i := 4) FN.conns))) ?_
  refine L_run 443 (.bool false) M (fun w M => ex_bin (.int .i64 0) (.int .i64 0) (.bool false) (gdi _ _ _ _ _ _ _ w) (by kernel_rfl)) ?_
  refine L_run 444 (.bool false) M (fun w M => ex_pick false _) ?_
  refine L_nil (show cL _ _ _ _ _ from ?_)
  refine cL_if false rfl ?_
  refine cL_skip (show cT 36 _ _ _ from ?_)
  exact cL_as [(19, .pointer (some ⟨B + 8, 0, none⟩))] (by repeat (first | exact trivial | refine And.intro rfl ?_)) (phZ w0 _ B R _ L CT T hT FE.e5 FE.e6 FE.e7 M hR)
structure R87 (w0 : World) (B n : Nat) (conn : Int) (w' : World) : Prop where
  ex : ∃ L' CT b, Mem w0 w' B L' ∧ L'[8]? = some (.cells CT 44 (0, 0)) ∧ Tab CT B ∧ L'[4]? = some (.map #[ent (.int .u64 conn) (.map (some (B + (n + 6)))) 0] 1) ∧ L'[n + 6]? = some (.map #[ent (.agg (kc (sid 2))) (.agg #[]) b] 2) ∧ L'[n + 1]? = some (.cells (kc (sid 2)) 63 (0, 0))
section
variable {w0 w' : World} {B n : Nat} {conn : Int}
theorem R87.tab (h : R87 w0 B n conn w') : (Instr.loadAt 27 (.pointer (some ⟨B + 8, 16, none⟩))).run Yba.prog w' = .ok (.map (some (B + 4))) w' := by
  obtain ⟨L', CT, b, M, h8, T, _, _, _⟩ := h.ex
  exact run_load1 M h8 T.conns Yba.underlying27 rfl
theorem R87.l1 (h : R87 w0 B n conn w') : (Instr.lookup 27 (.map (some (B + 4))) (.int .u64 conn) false).run Yba.prog w' = .ok (.map (some (B + (n + 6)))) w' := by
  obtain ⟨L', CT, b, M, _, _, h4, _, _⟩ := h.ex
  exact run_look Yba.underlying27 (M.get h4) (ck64 conn _ _) (find_hit w' Yba.underlying64 _ _ _ _ (same_int conn)) false
theorem R87.l2 (h : R87 w0 B n conn w') : (Instr.lookup 74 (.map (some (B + (n + 6)))) (.agg (kc (sid 2))) true).run Yba.prog w' = .ok (.tuple #[.agg #[], .bool true]) w' := by
  obtain ⟨L', CT, b, M, _, _, _, h6, _⟩ := h.ex
  exact run_look Yba.underlying74 (M.get h6) (ck63 2 _ _) (findS1 2 _ _ (.inr rfl) w') true
theorem R87.s2 (h : R87 w0 B n conn w') : (Instr.loadAt 63 (.pointer (some ⟨B + (n + 1), 0, none⟩))).run Yba.prog w' = .ok (.agg (kc (sid 2))) w' := by
  obtain ⟨L', CT, b, M, _, _, _, _, h1⟩ := h.ex
  exact ld_sid M h1
end
set_option maxRecDepth 100000 in
theorem phF_s (a0 : Int) (a1 a2 : ByteArray) (a3 : Bool) (a4 : Int) (a5 : Bool) (a6 : Int) (a8 : Int) (w0 w : World) (B : Nat) (R : Ending → World → Prop) (s : Nat → Value) (r : Int) (st kept : Bool) (pc1 pu1 : Option Addr) (L : List Obj) (FE : FinE L B a0 a1 a2 st kept (jo3 a3) (jt3 a3) pc1 pu1 r) (FS : FinS L B (nn st) a0 a8) (M : Mem w0 w B L) (hR : ∀ w', Below B w0 w' → R (.returned (.bool true)) w') :
    cT 35 (bodyPost Yba.prog Yba.f3 R) (look [(0, .int .u64 a0), (1, .string a1), (2, .string a2), (3, .bool a3), (4, .int .u8 a4), (5, .bool a5), (6, .int .u8 a6), (7, .bool true), (8, .int .u64 a8), (19, .pointer (some ⟨B + 8, 0, none⟩)), (20, .pointer (some ⟨B + 10, 0, none⟩)), (21, .pointer (some ⟨B + 12, 0, none⟩)), (22, .pointer (some ⟨B + 13, 0, none⟩)), (26, .pointer (some ⟨B + 14, 0, none⟩)), (27, .pointer (bif st then some ⟨B + 15, 0, none⟩ else none)), (28, .pointer (some ⟨B + nn st, 0, none⟩)), (29, .pointer (some ⟨B + (nn st + 1), 0, none⟩)), (30, .int .u64 a8), (31, .pointer (bif true then some ⟨B + (nn st + 3), 0, none⟩ else none)), (32, .pointer (bif true then some ⟨B + (nn st + 5), 0, none⟩ else none)), (24, .map (some (B + jo3 a3))), (25, .map (some (B + jt3 a3))), (33, .pointer pc1), (34, .pointer pu1), (35, .bool kept)] s) w := by
  obtain ⟨CT, hT, T⟩ := FE.tab
  obtain ⟨CS1, c1, hS1, S1⟩ := FS.s
  obtain ⟨CS2, c2, hS2, S2⟩ := FS.s2
  obtain ⟨CD, ow, m0, hCD, D⟩ := FS.dcli
  obtain ⟨vd, hds⟩ := FS.dses
  obtain ⟨bi, hin⟩ := FS.inner
  refine cT_step 35 (cL_seq (cL_region ?_))
  refine L_run 363 (.bool true) M (fun w M => ex_move _) ?_
  refine L_nil (show cL _ _ _ _ _ from ?_)
  refine cL_if true rfl ?_
  have hC := M.drews
  refine cL_seq (cL_seq (cL_quiet ?_))
  refine q_run 364 (.pointer (some ⟨B + 8, 0, none⟩)) hC (fun w M => ex_move _) ?_
  refine q_run 365 (.pointer (some ⟨B + 8, 0, none⟩)) hC (fun w M => ex_nil _) ?_
  refine q_run 366 (.pointer (some ⟨B + 8, 15, none⟩)) hC (fun w M => ex_field _ _ (fa44_10 (B + 8))) ?_
  refine q_run 367 (.map (some (B + 3))) hC (fun w M => ex_load _ _ (run_load1 M (j := 8) (i := 15) hT T.sessions Yba.underlying26 rfl)) ?_
  refine q_run 368 (.int .i64 1) hC (fun w M => ex_len _ _ (fun ty => run_lenmap ty Yba.underlying26 (M.get (i := 3) FS.sess))) ?_
  refine q_run 369 (.bool false) hC (fun w M => ex_bin (.int .i64 1) (.int .i64 1) (.bool false) (gdi _ _ _ _ _ _ _ w) (by kernel_rfl)) ?_
  refine q_run 370 (.bool false) hC (fun w M => ex_move _) ?_
  refine q_run 371 (.pointer (some ⟨B + 8, 0, none⟩)) hC (fun w M => ex_move _) ?_
  refine q_run 372 (.pointer (some ⟨B + 8, 0, none⟩)) hC (fun w M => ex_nil _) ?_
  refine q_run 373 (.pointer (some ⟨B + 8, 15, none⟩)) hC (fun w M => ex_field _ _ (fa44_10 (B + 8))) ?_
  refine q_run 374 (.map (some (B + 3))) hC (fun w M => ex_load _ _ (run_load1 M (j := 8) (i := 15) hT T.sessions Yba.underlying26 rfl)) ?_
  refine q_run 375 (.agg (kc (sid 2))) hC (fun w M => ex_load _ _ (ld_sid M (j := (nn st + 1)) (x := 2) FS.sid2)) ?_
  refine q_run 376 (.pointer (some ⟨B + (nn st + 5), 0, none⟩)) hC (fun w M => ex_lookup _ _ _ (run_look Yba.underlying26 (M.get (i := 3) FS.sess) (ck63 2 _ _) (findS1 2 _ _ (.inr rfl) w) false)) ?_
  refine q_run 377 (.pointer (some ⟨B + (nn st + 5), 0, none⟩)) hC (fun w M => ex_move _) ?_
  refine q_run 378 (.bool false) hC (fun w M => ex_bin _ _ _ (gdp _ _ _ _ _ _ w (.inr rfl)) (ne65 (some ⟨B + (nn st + 5), 0, none⟩) w)) ?_
  refine q_run 379 (.bool false) hC (fun w M => ex_pick false _) ?_
  refine q_done hC ?_; clear hC M; intro w M; show cL _ _ _ _ _
  refine cL_if false rfl ?_
  refine cL_skip (show cL _ _ _ _ _ from ?_)
  refine cL_seq (cL_seq (cL_region ?_))
  refine L_run 380 (.pointer (some ⟨B + (nn st + 3), 0, none⟩)) M (fun w M => ex_move _) ?_
  refine L_run 381 (.pointer (some ⟨B + (nn st + 3), 0, none⟩)) M (fun w M => ex_nil _) ?_
  refine L_run 382 (.pointer (some ⟨B + (nn st + 3), 23, none⟩)) M (fun w M => ex_field _ _ (fa73_4 (B + (nn st + 3)))) ?_
  refine L_run 383 (.map (some (B + (nn st + 2)))) M (fun w M => ex_load _ _ (run_load1 M (j := (nn st + 3)) (i := 23) hS1 S1.conns Yba.underlying66 rfl)) ?_
  refine L_run 384 (.int .i64 0) M (fun w M => ex_len _ _ (fun ty => run_lenmap ty Yba.underlying66 (M.get (i := (nn st + 2)) FS.jc))) ?_
  refine L_run 385 (.bool false) M (fun w M => ex_bin (.int .i64 0) (.int .i64 0) (.bool false) (gdi _ _ _ _ _ _ _ w) (by kernel_rfl)) ?_
  refine L_run 386 (.bool false) M (fun w M => ex_move _) ?_
  refine L_run 387 (.pointer (some ⟨B + (nn st + 5), 0, none⟩)) M (fun w M => ex_move _) ?_
  refine L_run 388 (.pointer (some ⟨B + (nn st + 5), 0, none⟩)) M (fun w M => ex_nil _) ?_
  refine L_run 389 (.pointer (some ⟨B + (nn st + 5), 23, none⟩)) M (fun w M => ex_field _ _ (fa73_4 (B + (nn st + 5)))) ?_
  refine L_run 390 (.map (some (B + (nn st + 4)))) M (fun w M => ex_load _ _ (run_load1 M (j := (nn st + 5)) (i := 23) hS2 S2.conns Yba.underlying66 rfl)) ?_
  refine L_run 391 (.int .i64 1) M (fun w M => ex_len _ _ (fun ty => run_lenmap ty Yba.underlying66 (M.get (i := (nn st + 4)) FS.jc2))) ?_
  refine L_run 392 (.bool false) M (fun w M => ex_bin (.int .i64 1) (.int .i64 1) (.bool false) (gdi _ _ _ _ _ _ _ w) (by kernel_rfl)) ?_
  refine L_run 393 (.bool false) M (fun w M => ex_pick false _) ?_
  refine L_run 394 (.bool false) M (fun w M => ex_move _) ?_
  refine L_run 395 (.pointer (some ⟨B + 12, 0, none⟩)) M (fun w M => ex_move _) ?_
  refine L_run 396 (.pointer (some ⟨B + 12, 0, none⟩)) M (fun w M => ex_nil _) ?_
  refine L_run 397 (.pointer (some ⟨B + 12, 18, none⟩)) M (fun w M => ex_field _ _ (fa57_9 (B + 12))) ?_
  refine L_run 398 (.map (some (B + 11))) M (fun w M => ex_load _ _ (run_load1 M (j := 12) (i := 18) hCD D.sessions Yba.underlying26 rfl)) ?_
  refine L_run 399 (.int .i64 1) M (fun w M => ex_len _ _ (fun ty => run_lenmap ty Yba.underlying26 (M.get (i := 11) hds))) ?_
  refine L_run 400 (.bool false) M (fun w M => ex_bin (.int .i64 1) (.int .i64 1) (.bool false) (gdi _ _ _ _ _ _ _ w) (by kernel_rfl)) ?_
  refine L_run 401 (.bool false) M (fun w M => ex_pick false _) ?_
  refine L_nil (show cL _ _ _ _ _ from ?_)
  refine cL_if false rfl ?_
  refine cL_skip (show cL _ _ _ _ _ from ?_)
  refine cL_seq (cL_seq (cL_region ?_))
  refine L_run 402 (.pointer (some ⟨B + 8, 0, none⟩)) M (fun w M => ex_move _) ?_
  refine L_run 403 (.pointer (some ⟨B + 8, 0, none⟩)) M (fun w M => ex_nil _) ?_
  refine L_run 404 (.pointer (some ⟨B + 8, 16, none⟩)) M (fun w M => ex_field _ _ (fa44_11 (B + 8))) ?_
  refine L_run 405 (.map (some (B + 4))) M (fun w M => ex_load _ _ (run_load1 M (j := 8) (i := 16) hT T.conns Yba.underlying27 rfl)) ?_
  refine L_run 406 (.int .i64 1) M (fun w M => ex_len _ _ (fun ty => run_lenmap ty Yba.underlying27 (M.get (i := 4) FS.conns))) ?_
  refine L_run 407 (.bool false) M (fun w M => ex_bin (.int .i64 1) (.int .i64 1) (.bool false) (gdi _ _ _ _ _ _ _ w) (by kernel_rfl)) ?_
  refine L_run 408 (.bool false) M (fun w M => ex_move _) ?_
  refine L_run 409 (.pointer (some ⟨B + 8, 0, none⟩)) M (fun w M => ex_move _) ?_
  refine L_run 410 (.pointer (some ⟨B + 8, 0, none⟩)) M (fun w M => ex_nil _) ?_
  refine L_run 411 (.pointer (some ⟨B + 8, 16, none⟩)) M (fun w M => ex_field _ _ (fa44_11 (B + 8))) ?_
  refine L_run 412 (.map (some (B + 4))) M (fun w M => ex_load _ _ (run_load1 M (j := 8) (i := 16) hT T.conns Yba.underlying27 rfl)) ?_
  refine L_run 413 (.int .u64 a8) M (fun w M => ex_move _) ?_
  refine L_run 414 (.map (some (B + (nn st + 6)))) M (fun w M => ex_lookup _ _ _ (run_look Yba.underlying27 (M.get (i := 4) FS.conns) (ck64 a8 _ _) (find_hit w Yba.underlying64 _ _ _ _ (same_int a8)) false)) ?_
  refine L_run 415 (.int .i64 1) M (fun w M => ex_len _ _ (fun ty => run_lenmap ty Yba.underlying74 (M.get (i := (nn st + 6)) hin))) ?_
  refine L_run 416 (.bool false) M (fun w M => ex_bin (.int .i64 1) (.int .i64 1) (.bool false) (gdi _ _ _ _ _ _ _ w) (by kernel_rfl)) ?_
  refine L_run 417 (.bool false) M (fun w M => ex_pick false _) ?_
  refine L_nil (show cL _ _ _ _ _ from ?_)
  refine cL_if false rfl ?_
  refine cL_skip (show cL _ _ _ _ _ from ?_)
  refine cL_seq (cL_cutR [0, 1, 2, 3, 4, 5, 6, 7, 8, 9, 10] [11, 12] 13 [] (R87 w0 B (nn st) a8) ⟨_, CT, bi, M.drew, hT, T, FS.conns, hin, FS.sid2⟩ ?_)
  refine t_runR 419 (.pointer (some ⟨B + 8, 0, none⟩)) (fun w hr => ex_move _) ?_
  refine t_runR 420 (.pointer (some ⟨B + 8, 0, none⟩)) (fun w hr => ex_nil _) ?_
  refine t_runR 421 (.pointer (some ⟨B + 8, 16, none⟩)) (fun w hr => ex_field _ _ (fa44_11 (B + 8))) ?_
  refine t_runR 422 (.map (some (B + 4))) (fun w hr => ex_load _ _ hr.tab) ?_
  refine t_runR 423 (.int .u64 a8) (fun w hr => ex_move _) ?_
  refine t_runR 424 (.map (some (B + (nn st + 6)))) (fun w hr => ex_lookup _ _ _ hr.l1) ?_
  refine t_runR 425 (.agg (kc (sid 2))) (fun w hr => ex_load _ _ hr.s2) ?_
  refine t_runR 426 (.tuple #[.agg #[], .bool true]) (fun w hr => ex_lookup _ _ _ hr.l2) ?_
  refine t_runR 418 (.tuple #[.agg #[], .bool true]) (fun w hr => ex_move _) ?_
  refine t_runR 427 (.agg #[]) (fun w hr => ex_extract (.tuple #[.agg #[], .bool true]) (.agg #[]) (fun w => by kernel_rfl)) ?_
  refine t_runR 428 (.bool true) (fun w hr => ex_extract (.tuple #[.agg #[], .bool true]) (.bool true) (fun w => by kernel_rfl)) ?_
  refine t_nil (mids_cons ?_)
  replace M := M.drew
  refine L_alloc 39 L.length (.agg #[]) M rfl z31 ?_; clear M; intro w M
  refine mid_nil ⟨_, CT, bi, M, g_app hT, T, g_app FS.conns, g_app hin, g_app FS.sid2⟩ (mids_cons ?_)
  refine L_storeRow L.length #[] #[] 31 M (by simp [Value.cells]) rfl size31 (by simp) ?_; clear M; intro w M
  have hlt : ∀ {k : Nat} {x : Obj}, L[k]? = some x → L.length ≠ k := fun h e => by have := (List.getElem?_eq_some_iff.1 h).1; omega
  refine mid_nil ⟨_, CT, bi, M, (g_set (g_app hT) (hlt hT)), T, (g_set (g_app FS.conns) (hlt FS.conns)), (g_set (g_app hin) (hlt hin)), (g_set (g_app FS.sid2) (hlt FS.sid2))⟩ (mids_nil (show wpL _ _ _ _ _ _ from ?_))
  refine L_run 40 (.bool true) M (fun w M => ex_move _) ?_
  refine L_nil (show cL _ _ _ _ _ from ?_)
  refine cL_seq (cL_region ?_)
  refine L_run 429 (.bool true) M (fun w M => ex_move _) ?_
  refine L_run 430 (.bool false) M (fun w M => by kernel_rfl) ?_
  refine L_nil (show cL _ _ _ _ _ from ?_)
  refine cL_if false rfl ?_
  refine cL_skip (show cT 36 _ _ _ from ?_)
  exact cL_as [(19, .pointer (some ⟨B + 8, 0, none⟩))] (by repeat (first | exact trivial | refine And.intro rfl ?_)) (phZ w0 _ B R _ _ CT T (g_set (g_app hT) (hlt hT)) (g_set (g_app FE.e5) (hlt FE.e5)) (g_set (g_app FE.e6) (hlt FE.e6)) (g_set (g_app FE.e7) (hlt FE.e7)) M hR)
end Go.Proofs.Ybulkdufc
