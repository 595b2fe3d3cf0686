/-
  The fifth part: the tests of the owners' records and of the clients.
-/
import Derived.Test.YbulkdufcPhD0
namespace Go.Proofs.Ybulkdufc
open Go.RowKit Go.Split
theorem eql8_ne {r : Int} (h : r ≠ 2) (w : World) : (binOp .eql 5 (.int .u8 r) (.int .u8 2)).run Yba.prog w = .ok (.bool false) w := by
  simp [binOp, Op.intCmp, h]
set_option maxRecDepth 100000 in
theorem phE_nn (a0 : Int) (a1 a2 : ByteArray) (a3 : Bool) (a4 : Int) (a5 : Bool) (a6 : Int) (a7 : Bool) (a8 : Int) (w0 w : World) (B : Nat) (R : Ending → World → Prop) (s : Nat → Value) (r : Int) (pc1 pu1 : Option Addr) (L : List Obj) (h6 : a6.tmod 3 = r) (FE : FinE L B a0 a1 a2 false false (jo3 a3) (jt3 a3) pc1 pu1 r) (M : Mem w0 w B L)
    (next : ∀ (s' : Nat → Value) (w' : World), Mem w0 w' B L → cT 35 (bodyPost Yba.prog Yba.f3 R) (look [(0, .int .u64 a0), (1, .string a1), (2, .string a2), (3, .bool a3), (4, .int .u8 a4), (5, .bool a5), (6, .int .u8 a6), (7, .bool a7), (8, .int .u64 a8), (19, .pointer (some ⟨B + 8, 0, none⟩)), (20, .pointer (some ⟨B + 10, 0, none⟩)), (21, .pointer (some ⟨B + 12, 0, none⟩)), (22, .pointer (some ⟨B + 13, 0, none⟩)), (26, .pointer (some ⟨B + 14, 0, none⟩)), (27, .pointer (bif false then some ⟨B + 15, 0, none⟩ else none)), (28, .pointer (some ⟨B + nn false, 0, none⟩)), (29, .pointer (some ⟨B + (nn false + 1), 0, none⟩)), (30, .int .u64 a8), (31, .pointer (bif a7 then some ⟨B + (nn false + 3), 0, none⟩ else none)), (32, .pointer (bif a7 then some ⟨B + (nn false + 5), 0, none⟩ else none)), (24, .map (some (B + jo3 a3))), (25, .map (some (B + jt3 a3))), (33, .pointer pc1), (34, .pointer pu1), (35, .bool false)] s') w') :
    cT 25 (bodyPost Yba.prog Yba.f3 R) (look [(0, .int .u64 a0), (1, .string a1), (2, .string a2), (3, .bool a3), (4, .int .u8 a4), (5, .bool a5), (6, .int .u8 a6), (7, .bool a7), (8, .int .u64 a8), (19, .pointer (some ⟨B + 8, 0, none⟩)), (20, .pointer (some ⟨B + 10, 0, none⟩)), (21, .pointer (some ⟨B + 12, 0, none⟩)), (22, .pointer (some ⟨B + 13, 0, none⟩)), (26, .pointer (some ⟨B + 14, 0, none⟩)), (27, .pointer (bif false then some ⟨B + 15, 0, none⟩ else none)), (28, .pointer (some ⟨B + nn false, 0, none⟩)), (29, .pointer (some ⟨B + (nn false + 1), 0, none⟩)), (30, .int .u64 a8), (31, .pointer (bif a7 then some ⟨B + (nn false + 3), 0, none⟩ else none)), (32, .pointer (bif a7 then some ⟨B + (nn false + 5), 0, none⟩ else none)), (24, .map (some (B + jo3 a3))), (25, .map (some (B + jt3 a3))), (33, .pointer pc1), (34, .pointer pu1), (35, .bool false)] s) w := by
  obtain ⟨CT, hT, T⟩ := FE.tab
  obtain ⟨CC, ow, m0, hCC, C⟩ := FE.cli
  obtain ⟨es, c, hm, MO⟩ := FE.mine
  obtain ⟨c9, h9⟩ := FE.cses
  have hsz : es.size = 0 := MO.size
  refine cT_step 25 (cL_seq (cL_region ?_))
  refine L_run 242 (.pointer (some ⟨B + 13, 0, none⟩)) M (fun w M => ex_move _) ?_
  refine L_run 243 (.pointer (some ⟨B + 13, 0, none⟩)) M (fun w M => ex_nil _) ?_
  refine L_run 244 (.pointer (some ⟨B + 13, 0, none⟩)) M (fun w M => ex_field _ _ (fa60_0 (B + 13))) ?_
  refine L_run 245 (.pointer pc1) M (fun w M => ex_load _ _ (run_load1 M (j := 13) (i := 0) FE.o rfl under45 rfl)) ?_
  refine L_run 246 (.pointer pc1) M (fun w M => ex_move _) ?_
  refine L_run 247 (.bool false) M (fun w M => ex_bin _ _ _ (gdp _ _ _ _ _ _ w (.inr rfl)) (ne45 pc1 w)) ?_
  refine L_run 248 (.bool false) M (fun w M => ex_move _) ?_
  refine L_run 249 (.pointer (some ⟨B + 13, 0, none⟩)) M (fun w M => ex_move _) ?_
  refine L_run 250 (.pointer (some ⟨B + 13, 0, none⟩)) M (fun w M => ex_nil _) ?_
  refine L_run 251 (.pointer (some ⟨B + 13, 1, none⟩)) M (fun w M => ex_field _ _ (fa60_1 (B + 13))) ?_
  refine L_run 252 (.pointer pu1) M (fun w M => ex_load _ _ (run_load1 M (j := 13) (i := 1) FE.o rfl under45 rfl)) ?_
  refine L_run 253 (.pointer pu1) M (fun w M => ex_move _) ?_
  refine L_run 254 (.bool false) M (fun w M => ex_bin _ _ _ (gdp _ _ _ _ _ _ w (.inr rfl)) (ne45 pu1 w)) ?_
  refine L_run 255 (.bool false) M (fun w M => ex_pick false _) ?_
  refine L_nil (show cL _ _ _ _ _ from ?_)
  refine cL_if false rfl ?_
  refine cL_skip (show cT 26 _ _ _ from ?_)
  refine cT_step 26 (cL_region ?_)
  refine L_run 257 (.map (some (B + jo3 a3))) M (fun w M => ex_move _) ?_
  refine L_run 258 (.string a1) M (fun w M => ex_move _) ?_
  refine L_run 259 (.tuple #[.pointer none, .bool false]) M (fun w M => ex_lookup _ _ _ (run_look_none (v := .pointer none) Yba.underlying25 (M.get (i := jo3 a3) hm) (ck9 a1 _ _) (MO.find w) (by kernel_rfl) true)) ?_
  refine L_run 256 (.tuple #[.pointer none, .bool false]) M (fun w M => ex_move _) ?_
  refine L_run 260 (.pointer none) M (fun w M => ex_extract (.tuple #[.pointer none, .bool false]) (.pointer none) (fun w => by kernel_rfl)) ?_
  refine L_run 261 (.bool false) M (fun w M => ex_extract (.tuple #[.pointer none, .bool false]) (.bool false) (fun w => by kernel_rfl)) ?_
  refine L_run 36 (.pointer none) M (fun w M => ex_move _) ?_
  refine L_run 37 (.bool false) M (fun w M => ex_move _) ?_
  refine L_nil (show cT 27 _ _ _ from ?_)
  refine cT_step 27 (cL_seq (cL_region ?_))
  refine L_run 262 (.bool false) M (fun w M => ex_move _) ?_
  refine L_run 263 (.bool false) M (fun w M => ex_move _) ?_
  refine L_run 264 (.bool false) M (fun w M => ex_bin (.bool false) (.bool false) (.bool false) (by kernel_rfl) (by kernel_rfl)) ?_
  refine L_run 265 (.bool false) M (fun w M => ex_move _) ?_
  refine L_run 266 (.bool false) M (fun w M => ex_move _) ?_
  refine L_run 267 (.bool false) M (fun w M => ex_move _) ?_
  refine L_pass 268 ?_
  refine L_pass 269 ?_
  refine L_pass 270 ?_
  refine L_run 271 (.bool false) M (fun w M => ex_pick false _) ?_
  refine L_run 272 (.bool false) M (fun w M => ex_pick false _) ?_
  refine L_nil (show cL _ _ _ _ _ from ?_)
  refine cL_if false rfl ?_
  refine cL_skip (show cT 28 _ _ _ from ?_)
  refine cT_step 28 (cL_region ?_)
  refine L_run 38 (.int .i64 0) M (fun w M => ex_move _) ?_
  refine L_nil (show cT 29 _ _ _ from ?_)
  refine cT_step 29 (cL_seq (cL_region ?_))
  refine L_run 273 (.bool false) M (fun w M => ex_move _) ?_
  refine L_nil (show cL _ _ _ _ _ from ?_)
  refine cL_if false rfl ?_
  refine cL_skip (show cT 30 _ _ _ from ?_)
  refine cT_step 30 (cL_seq (cL_region ?_))
  refine L_run 276 (.pointer none) M (fun w M => ex_move _) ?_
  refine L_run 277 (.bool false) M (fun w M => ex_bin _ _ _ (gdp _ _ _ _ _ _ w (.inr rfl)) (ne58 none w)) ?_
  refine L_nil (show cL _ _ _ _ _ from ?_)
  refine cL_if false rfl ?_
  refine cL_skip (show cT 31 _ _ _ from ?_)
  refine cT_step 31 (cL_seq (cL_region ?_))
  refine L_run 300 (.map (some (B + jo3 a3))) M (fun w M => ex_move _) ?_
  refine L_run 301 (.int .i64 0) M (fun w M => ex_len _ _ (fun ty => by rw [run_lenmap ty Yba.underlying25 (M.get (i := jo3 a3) hm), hsz]; rfl)) ?_
  refine L_run 302 (.int .i64 0) M (fun w M => ex_move _) ?_
  refine L_run 303 (.bool false) M (fun w M => ex_bin (.int .i64 0) (.int .i64 0) (.bool false) (gdi _ _ _ _ _ _ _ w) (by kernel_rfl)) ?_
  refine L_nil (show cL _ _ _ _ _ from ?_)
  refine cL_if false rfl ?_
  refine cL_skip (show cT 32 _ _ _ from ?_)
  refine cT_step 32 (cL_seq (cL_region ?_))
  refine L_run 304 (.map (some (B + jt3 a3))) M (fun w M => ex_move _) ?_
  refine L_run 305 (.int .i64 1) M (fun w M => ex_len _ _ (fun ty => run_lenmap ty Yba.underlying25 (M.get (i := jt3 a3) FE.theirs))) ?_
  refine L_run 306 (.bool false) M (fun w M => ex_bin (.int .i64 1) (.int .i64 1) (.bool false) (gdi _ _ _ _ _ _ _ w) (by kernel_rfl)) ?_
  refine L_run 307 (.bool false) M (fun w M => ex_move _) ?_
  refine L_run 308 (.map (some (B + jt3 a3))) M (fun w M => ex_move _) ?_
  refine L_run 309 (.string a1) M (fun w M => ex_move _) ?_
  refine L_run 310 (.pointer (some ⟨B + 14, 0, none⟩)) M (fun w M => ex_lookup _ _ _ (run_look Yba.underlying25 (M.get (i := jt3 a3) FE.theirs) (ck9 a1 _ _) (find_hit w Yba.underlying9 _ _ _ _ (same_str a1)) false)) ?_
  refine L_run 311 (.pointer (some ⟨B + 14, 0, none⟩)) M (fun w M => ex_move _) ?_
  refine L_run 312 (.bool false) M (fun w M => ex_bin _ _ _ (gdp _ _ _ _ _ _ w (.inr rfl)) (ne58 (some ⟨B + 14, 0, none⟩) w)) ?_
  refine L_run 313 (.bool false) M (fun w M => ex_pick false _) ?_
  refine L_run 314 (.bool false) M (fun w M => ex_move _) ?_
  refine L_run 315 (.pointer (some ⟨B + 14, 0, none⟩)) M (fun w M => ex_move _) ?_
  refine L_run 316 (.pointer (some ⟨B + 14, 0, none⟩)) M (fun w M => ex_nil _) ?_
  refine L_run 317 (.pointer (some ⟨B + 14, 0, none⟩)) M (fun w M => ex_field _ _ (fa60_0 (B + 14))) ?_
  refine L_run 318 (.pointer (some ⟨B + 12, 0, none⟩)) M (fun w M => ex_load _ _ (run_load1 M (j := 14) (i := 0) FE.keep rfl under45 rfl)) ?_
  refine L_run 319 (.pointer (some ⟨B + 12, 0, none⟩)) M (fun w M => ex_move _) ?_
  refine L_run 320 (.bool false) M (fun w M => ex_bin _ _ _ (gdp _ _ _ _ _ _ w (.inr rfl)) (ne45 (some ⟨B + 12, 0, none⟩) w)) ?_
  refine L_run 321 (.bool false) M (fun w M => ex_pick false _) ?_
  refine L_run 322 (.bool false) M (fun w M => ex_move _) ?_
  refine L_run 323 (.pointer (some ⟨B + 14, 0, none⟩)) M (fun w M => ex_move _) ?_
  refine L_run 324 (.pointer (some ⟨B + 14, 0, none⟩)) M (fun w M => ex_nil _) ?_
  refine L_run 325 (.pointer (some ⟨B + 14, 1, none⟩)) M (fun w M => ex_field _ _ (fa60_1 (B + 14))) ?_
  refine L_run 326 (.pointer none) M (fun w M => ex_load _ _ (run_load1 M (j := 14) (i := 1) FE.keep rfl under45 rfl)) ?_
  refine L_run 327 (.bool false) M (fun w M => ex_bin _ _ _ (gdp _ _ _ _ _ _ w (.inr rfl)) (ne45 none w)) ?_
  refine L_run 328 (.bool false) M (fun w M => ex_pick false _) ?_
  refine L_nil (show cL _ _ _ _ _ from ?_)
  refine cL_if false rfl ?_
  refine cL_skip (show cT 33 _ _ _ from ?_)
  rcases FE.clients with ⟨rfl, hcl⟩ | ⟨hr, c0, hcl⟩
  · refine cT_step 33 (cL_seq (cL_region ?_))
    refine L_run 329 (.int .u8 a6) M (fun w M => ex_move _) ?_
    refine L_run 330 (.int .u8 2) M (fun w M => ex_bin (.int .u8 a6) (.int .u8 3) (.int .u8 2) (gdi _ _ _ _ _ _ _ w) (rem8 a6 3 2 (by decide) h6 w)) ?_
    refine L_run 331 (.bool true) M (fun w M => ex_bin (.int .u8 2) (.int .u8 2) (.bool true) (gdi _ _ _ _ _ _ _ w) (by kernel_rfl)) ?_
    refine L_nil (show cL _ _ _ _ _ from ?_)
    refine cL_if true rfl ?_
    have hD := M.drews
    have hC := hD; clear hD
    refine cL_seq (cL_quiet ?_)
    refine q_run 332 (.pointer (some ⟨B + 8, 0, none⟩)) hC (fun w M => ex_move _) ?_
    refine q_run 333 (.pointer (some ⟨B + 8, 0, none⟩)) hC (fun w M => ex_nil _) ?_
    refine q_run 334 (.pointer (some ⟨B + 8, 12, none⟩)) hC (fun w M => ex_field _ _ (fa44_7 (B + 8))) ?_
    refine q_run 335 (.map (some (B + 0))) hC (fun w M => ex_load _ _ (run_load1 M (j := 8) (i := 12) hT T.clients Yba.underlying24 rfl)) ?_
    refine q_run 336 (.int .i64 1) hC (fun w M => ex_len _ _ (fun ty => run_lenmap ty Yba.underlying24 (M.get (i := 0) hcl))) ?_
    refine q_run 337 (.bool false) hC (fun w M => ex_bin (.int .i64 1) (.int .i64 1) (.bool false) (gdi _ _ _ _ _ _ _ w) (by kernel_rfl)) ?_
    refine q_run 338 (.bool false) hC (fun w M => ex_move _) ?_
    refine q_run 339 (.pointer (some ⟨B + 8, 0, none⟩)) hC (fun w M => ex_move _) ?_
    refine q_run 340 (.pointer (some ⟨B + 8, 0, none⟩)) hC (fun w M => ex_nil _) ?_
    refine q_run 341 (.pointer (some ⟨B + 8, 12, none⟩)) hC (fun w M => ex_field _ _ (fa44_7 (B + 8))) ?_
    refine q_run 342 (.map (some (B + 0))) hC (fun w M => ex_load _ _ (run_load1 M (j := 8) (i := 12) hT T.clients Yba.underlying24 rfl)) ?_
    refine q_run 343 (.pointer (some ⟨B + 10, 0, none⟩)) hC (fun w M => ex_move _) ?_
    refine q_run 344 (.pointer (some ⟨B + 10, 0, none⟩)) hC (fun w M => ex_nil _) ?_
    refine q_run 345 (.pointer (some ⟨B + 10, 0, none⟩)) hC (fun w M => ex_field _ _ (fa57_0 (B + 10))) ?_
    refine q_run 346 (.int .u64 a0) hC (fun w M => ex_load _ _ (run_load1 M (j := 10) (i := 0) hCC C.id Yba.underlying46 rfl)) ?_
    refine q_run 347 (.pointer (some ⟨B + 12, 0, none⟩)) hC (fun w M => ex_lookup _ _ _ (run_look Yba.underlying24 (M.get (i := 0) hcl) (ck46 a0 _ _) (find_hit w Yba.underlying46 _ _ _ _ (same_int a0)) false)) ?_
    refine q_run 348 (.pointer (some ⟨B + 12, 0, none⟩)) hC (fun w M => ex_move _) ?_
    refine q_run 349 (.bool false) hC (fun w M => ex_bin _ _ _ (gdp _ _ _ _ _ _ w (.inr rfl)) (ne45 (some ⟨B + 12, 0, none⟩) w)) ?_
    refine q_run 350 (.bool false) hC (fun w M => ex_pick false _) ?_
    refine q_done hC ?_; clear hC M; intro w M; show cL _ _ _ _ _
    refine cL_if false rfl ?_
    refine cL_skip (show cT 34 _ _ _ from ?_)
    refine cT_step 34 (cL_seq (cL_region ?_))
    refine L_run 357 (.pointer (some ⟨B + 10, 0, none⟩)) M (fun w M => ex_move _) ?_
    refine L_run 358 (.pointer (some ⟨B + 10, 0, none⟩)) M (fun w M => ex_nil _) ?_
    refine L_run 359 (.pointer (some ⟨B + 10, 18, none⟩)) M (fun w M => ex_field _ _ (fa57_9 (B + 10))) ?_
    refine L_run 360 (.map (some (B + 9))) M (fun w M => ex_load _ _ (run_load1 M (j := 10) (i := 18) hCC C.sessions Yba.underlying26 rfl)) ?_
    refine L_run 361 (.int .i64 0) M (fun w M => ex_len _ _ (fun ty => run_lenmap ty Yba.underlying26 (M.get (i := 9) h9))) ?_
    refine L_run 362 (.bool false) M (fun w M => ex_bin (.int .i64 0) (.int .i64 0) (.bool false) (gdi _ _ _ _ _ _ _ w) (by kernel_rfl)) ?_
    refine L_nil (show cL _ _ _ _ _ from ?_)
    refine cL_if false rfl ?_
    refine cL_skip (show cT 35 _ _ _ from ?_)
    exact cL_as [(0, .int .u64 a0), (1, .string a1), (2, .string a2), (3, .bool a3), (4, .int .u8 a4), (5, .bool a5), (6, .int .u8 a6), (7, .bool a7), (8, .int .u64 a8), (19, .pointer (some ⟨B + 8, 0, none⟩)), (20, .pointer (some ⟨B + 10, 0, none⟩)), (21, .pointer (some ⟨B + 12, 0, none⟩)), (22, .pointer (some ⟨B + 13, 0, none⟩)), (26, .pointer (some ⟨B + 14, 0, none⟩)), (27, .pointer (bif false then some ⟨B + 15, 0, none⟩ else none)), (28, .pointer (some ⟨B + nn false, 0, none⟩)), (29, .pointer (some ⟨B + (nn false + 1), 0, none⟩)), (30, .int .u64 a8), (31, .pointer (bif a7 then some ⟨B + (nn false + 3), 0, none⟩ else none)), (32, .pointer (bif a7 then some ⟨B + (nn false + 5), 0, none⟩ else none)), (24, .map (some (B + jo3 a3))), (25, .map (some (B + jt3 a3))), (33, .pointer pc1), (34, .pointer pu1), (35, .bool false)] (by repeat (first | exact trivial | refine And.intro rfl ?_)) (next _ _ M)
  · refine cT_step 33 (cL_seq (cL_region ?_))
    refine L_run 329 (.int .u8 a6) M (fun w M => ex_move _) ?_
    refine L_run 330 (.int .u8 r) M (fun w M => ex_bin (.int .u8 a6) (.int .u8 3) (.int .u8 r) (gdi _ _ _ _ _ _ _ w) (rem8 a6 3 r (by decide) h6 w)) ?_
    refine L_run 331 (.bool false) M (fun w M => ex_bin (.int .u8 r) (.int .u8 2) (.bool false) (gdi _ _ _ _ _ _ _ w) (eql8_ne hr w)) ?_
    refine L_nil (show cL _ _ _ _ _ from ?_)
    refine cL_if false rfl ?_
    refine cL_seq (cL_region ?_)
    refine L_run 351 (.pointer (some ⟨B + 8, 0, none⟩)) M (fun w M => ex_move _) ?_
    refine L_run 352 (.pointer (some ⟨B + 8, 0, none⟩)) M (fun w M => ex_nil _) ?_
    refine L_run 353 (.pointer (some ⟨B + 8, 12, none⟩)) M (fun w M => ex_field _ _ (fa44_7 (B + 8))) ?_
    refine L_run 354 (.map (some (B + 0))) M (fun w M => ex_load _ _ (run_load1 M (j := 8) (i := 12) hT T.clients Yba.underlying24 rfl)) ?_
    refine L_run 355 (.int .i64 0) M (fun w M => ex_len _ _ (fun ty => run_lenmap ty Yba.underlying24 (M.get (i := 0) hcl))) ?_
    refine L_run 356 (.bool false) M (fun w M => ex_bin (.int .i64 0) (.int .i64 0) (.bool false) (gdi _ _ _ _ _ _ _ w) (by kernel_rfl)) ?_
    refine L_nil (show cL _ _ _ _ _ from ?_)
    refine cL_if false rfl ?_
    refine cL_skip (show cT 34 _ _ _ from ?_)
    refine cT_step 34 (cL_seq (cL_region ?_))
    refine L_run 357 (.pointer (some ⟨B + 10, 0, none⟩)) M (fun w M => ex_move _) ?_
    refine L_run 358 (.pointer (some ⟨B + 10, 0, none⟩)) M (fun w M => ex_nil _) ?_
    refine L_run 359 (.pointer (some ⟨B + 10, 18, none⟩)) M (fun w M => ex_field _ _ (fa57_9 (B + 10))) ?_
    refine L_run 360 (.map (some (B + 9))) M (fun w M => ex_load _ _ (run_load1 M (j := 10) (i := 18) hCC C.sessions Yba.underlying26 rfl)) ?_
    refine L_run 361 (.int .i64 0) M (fun w M => ex_len _ _ (fun ty => run_lenmap ty Yba.underlying26 (M.get (i := 9) h9))) ?_
    refine L_run 362 (.bool false) M (fun w M => ex_bin (.int .i64 0) (.int .i64 0) (.bool false) (gdi _ _ _ _ _ _ _ w) (by kernel_rfl)) ?_
    refine L_nil (show cL _ _ _ _ _ from ?_)
    refine cL_if false rfl ?_
    refine cL_skip (show cT 35 _ _ _ from ?_)
    exact cL_as [(0, .int .u64 a0), (1, .string a1), (2, .string a2), (3, .bool a3), (4, .int .u8 a4), (5, .bool a5), (6, .int .u8 a6), (7, .bool a7), (8, .int .u64 a8), (19, .pointer (some ⟨B + 8, 0, none⟩)), (20, .pointer (some ⟨B + 10, 0, none⟩)), (21, .pointer (some ⟨B + 12, 0, none⟩)), (22, .pointer (some ⟨B + 13, 0, none⟩)), (26, .pointer (some ⟨B + 14, 0, none⟩)), (27, .pointer (bif false then some ⟨B + 15, 0, none⟩ else none)), (28, .pointer (some ⟨B + nn false, 0, none⟩)), (29, .pointer (some ⟨B + (nn false + 1), 0, none⟩)), (30, .int .u64 a8), (31, .pointer (bif a7 then some ⟨B + (nn false + 3), 0, none⟩ else none)), (32, .pointer (bif a7 then some ⟨B + (nn false + 5), 0, none⟩ else none)), (24, .map (some (B + jo3 a3))), (25, .map (some (B + jt3 a3))), (33, .pointer pc1), (34, .pointer pu1), (35, .bool false)] (by repeat (first | exact trivial | refine And.intro rfl ?_)) (next _ _ M)
set_option maxRecDepth 100000 in
theorem phE_nk (a0 : Int) (a1 a2 : ByteArray) (a3 : Bool) (a4 : Int) (a5 : Bool) (a6 : Int) (a7 : Bool) (a8 : Int) (w0 w : World) (B : Nat) (R : Ending → World → Prop) (s : Nat → Value) (r : Int) (pc1 pu1 : Option Addr) (L : List Obj) (h6 : a6.tmod 3 = r) (FE : FinE L B a0 a1 a2 false true (jo3 a3) (jt3 a3) pc1 pu1 r) (M : Mem w0 w B L)
    (next : ∀ (s' : Nat → Value) (w' : World), Mem w0 w' B L → cT 35 (bodyPost Yba.prog Yba.f3 R) (look [(0, .int .u64 a0), (1, .string a1), (2, .string a2), (3, .bool a3), (4, .int .u8 a4), (5, .bool a5), (6, .int .u8 a6), (7, .bool a7), (8, .int .u64 a8), (19, .pointer (some ⟨B + 8, 0, none⟩)), (20, .pointer (some ⟨B + 10, 0, none⟩)), (21, .pointer (some ⟨B + 12, 0, none⟩)), (22, .pointer (some ⟨B + 13, 0, none⟩)), (26, .pointer (some ⟨B + 14, 0, none⟩)), (27, .pointer (bif false then some ⟨B + 15, 0, none⟩ else none)), (28, .pointer (some ⟨B + nn false, 0, none⟩)), (29, .pointer (some ⟨B + (nn false + 1), 0, none⟩)), (30, .int .u64 a8), (31, .pointer (bif a7 then some ⟨B + (nn false + 3), 0, none⟩ else none)), (32, .pointer (bif a7 then some ⟨B + (nn false + 5), 0, none⟩ else none)), (24, .map (some (B + jo3 a3))), (25, .map (some (B + jt3 a3))), (33, .pointer pc1), (34, .pointer pu1), (35, .bool true)] s') w') :
    cT 25 (bodyPost Yba.prog Yba.f3 R) (look [(0, .int .u64 a0), (1, .string a1), (2, .string a2), (3, .bool a3), (4, .int .u8 a4), (5, .bool a5), (6, .int .u8 a6), (7, .bool a7), (8, .int .u64 a8), (19, .pointer (some ⟨B + 8, 0, none⟩)), (20, .pointer (some ⟨B + 10, 0, none⟩)), (21, .pointer (some ⟨B + 12, 0, none⟩)), (22, .pointer (some ⟨B + 13, 0, none⟩)), (26, .pointer (some ⟨B + 14, 0, none⟩)), (27, .pointer (bif false then some ⟨B + 15, 0, none⟩ else none)), (28, .pointer (some ⟨B + nn false, 0, none⟩)), (29, .pointer (some ⟨B + (nn false + 1), 0, none⟩)), (30, .int .u64 a8), (31, .pointer (bif a7 then some ⟨B + (nn false + 3), 0, none⟩ else none)), (32, .pointer (bif a7 then some ⟨B + (nn false + 5), 0, none⟩ else none)), (24, .map (some (B + jo3 a3))), (25, .map (some (B + jt3 a3))), (33, .pointer pc1), (34, .pointer pu1), (35, .bool true)] s) w := by
  obtain ⟨CT, hT, T⟩ := FE.tab
  obtain ⟨CC, ow, m0, hCC, C⟩ := FE.cli
  obtain ⟨es, c, hm, MO⟩ := FE.mine
  obtain ⟨c9, h9⟩ := FE.cses
  have hsz : es.size = 1 := MO.size
  refine cT_step 25 (cL_seq (cL_region ?_))
  refine L_run 242 (.pointer (some ⟨B + 13, 0, none⟩)) M (fun w M => ex_move _) ?_
  refine L_run 243 (.pointer (some ⟨B + 13, 0, none⟩)) M (fun w M => ex_nil _) ?_
  refine L_run 244 (.pointer (some ⟨B + 13, 0, none⟩)) M (fun w M => ex_field _ _ (fa60_0 (B + 13))) ?_
  refine L_run 245 (.pointer pc1) M (fun w M => ex_load _ _ (run_load1 M (j := 13) (i := 0) FE.o rfl under45 rfl)) ?_
  refine L_run 246 (.pointer pc1) M (fun w M => ex_move _) ?_
  refine L_run 247 (.bool false) M (fun w M => ex_bin _ _ _ (gdp _ _ _ _ _ _ w (.inr rfl)) (ne45 pc1 w)) ?_
  refine L_run 248 (.bool false) M (fun w M => ex_move _) ?_
  refine L_run 249 (.pointer (some ⟨B + 13, 0, none⟩)) M (fun w M => ex_move _) ?_
  refine L_run 250 (.pointer (some ⟨B + 13, 0, none⟩)) M (fun w M => ex_nil _) ?_
  refine L_run 251 (.pointer (some ⟨B + 13, 1, none⟩)) M (fun w M => ex_field _ _ (fa60_1 (B + 13))) ?_
  refine L_run 252 (.pointer pu1) M (fun w M => ex_load _ _ (run_load1 M (j := 13) (i := 1) FE.o rfl under45 rfl)) ?_
  refine L_run 253 (.pointer pu1) M (fun w M => ex_move _) ?_
  refine L_run 254 (.bool false) M (fun w M => ex_bin _ _ _ (gdp _ _ _ _ _ _ w (.inr rfl)) (ne45 pu1 w)) ?_
  refine L_run 255 (.bool false) M (fun w M => ex_pick false _) ?_
  refine L_nil (show cL _ _ _ _ _ from ?_)
  refine cL_if false rfl ?_
  refine cL_skip (show cT 26 _ _ _ from ?_)
  refine cT_step 26 (cL_region ?_)
  refine L_run 257 (.map (some (B + jo3 a3))) M (fun w M => ex_move _) ?_
  refine L_run 258 (.string a1) M (fun w M => ex_move _) ?_
  refine L_run 259 (.tuple #[.pointer (some ⟨B + 13, 0, none⟩), .bool true]) M (fun w M => ex_lookup _ _ _ (run_look Yba.underlying25 (M.get (i := jo3 a3) hm) (ck9 a1 _ _) (MO.find w) true)) ?_
  refine L_run 256 (.tuple #[.pointer (some ⟨B + 13, 0, none⟩), .bool true]) M (fun w M => ex_move _) ?_
  refine L_run 260 (.pointer (some ⟨B + 13, 0, none⟩)) M (fun w M => ex_extract (.tuple #[.pointer (some ⟨B + 13, 0, none⟩), .bool true]) (.pointer (some ⟨B + 13, 0, none⟩)) (fun w => by kernel_rfl)) ?_
  refine L_run 261 (.bool true) M (fun w M => ex_extract (.tuple #[.pointer (some ⟨B + 13, 0, none⟩), .bool true]) (.bool true) (fun w => by kernel_rfl)) ?_
  refine L_run 36 (.pointer (some ⟨B + 13, 0, none⟩)) M (fun w M => ex_move _) ?_
  refine L_run 37 (.bool true) M (fun w M => ex_move _) ?_
  refine L_nil (show cT 27 _ _ _ from ?_)
  refine cT_step 27 (cL_seq (cL_region ?_))
  refine L_run 262 (.bool true) M (fun w M => ex_move _) ?_
  refine L_run 263 (.bool true) M (fun w M => ex_move _) ?_
  refine L_run 264 (.bool false) M (fun w M => ex_bin (.bool true) (.bool true) (.bool false) (by kernel_rfl) (by kernel_rfl)) ?_
  refine L_run 265 (.bool false) M (fun w M => ex_move _) ?_
  refine L_run 266 (.bool true) M (fun w M => ex_move _) ?_
  refine L_run 267 (.bool true) M (fun w M => ex_move _) ?_
  refine L_run 268 (.pointer (some ⟨B + 13, 0, none⟩)) M (fun w M => ex_move _) ?_
  refine L_run 269 (.pointer (some ⟨B + 13, 0, none⟩)) M (fun w M => ex_move _) ?_
  refine L_run 270 (.bool false) M (fun w M => ex_bin _ _ _ (gdp _ _ _ _ _ _ w (.inr rfl)) (ne58 (some ⟨B + 13, 0, none⟩) w)) ?_
  refine L_run 271 (.bool false) M (fun w M => ex_pick true _) ?_
  refine L_run 272 (.bool false) M (fun w M => ex_pick false _) ?_
  refine L_nil (show cL _ _ _ _ _ from ?_)
  refine cL_if false rfl ?_
  refine cL_skip (show cT 28 _ _ _ from ?_)
  refine cT_step 28 (cL_region ?_)
  refine L_run 38 (.int .i64 0) M (fun w M => ex_move _) ?_
  refine L_nil (show cT 29 _ _ _ from ?_)
  refine cT_step 29 (cL_seq (cL_region ?_))
  refine L_run 273 (.bool true) M (fun w M => ex_move _) ?_
  refine L_nil (show cL _ _ _ _ _ from ?_)
  refine cL_if true rfl ?_
  refine cL_region ?_
  refine L_run 274 (.int .i64 0) M (fun w M => ex_move _) ?_
  refine L_run 275 (.int .i64 1) M (fun w M => ex_bin (.int .i64 0) (.int .i64 1) (.int .i64 1) (gdi _ _ _ _ _ _ _ w) (by kernel_rfl)) ?_
  refine L_run 38 (.int .i64 1) M (fun w M => ex_move _) ?_
  refine L_nil (show cT 30 _ _ _ from ?_)
  refine cT_step 30 (cL_seq (cL_region ?_))
  refine L_run 276 (.pointer none) M (fun w M => ex_move _) ?_
  refine L_run 277 (.bool false) M (fun w M => ex_bin _ _ _ (gdp _ _ _ _ _ _ w (.inr rfl)) (ne58 none w)) ?_
  refine L_nil (show cL _ _ _ _ _ from ?_)
  refine cL_if false rfl ?_
  refine cL_skip (show cT 31 _ _ _ from ?_)
  refine cT_step 31 (cL_seq (cL_region ?_))
  refine L_run 300 (.map (some (B + jo3 a3))) M (fun w M => ex_move _) ?_
  refine L_run 301 (.int .i64 1) M (fun w M => ex_len _ _ (fun ty => by rw [run_lenmap ty Yba.underlying25 (M.get (i := jo3 a3) hm), hsz]; rfl)) ?_
  refine L_run 302 (.int .i64 1) M (fun w M => ex_move _) ?_
  refine L_run 303 (.bool false) M (fun w M => ex_bin (.int .i64 1) (.int .i64 1) (.bool false) (gdi _ _ _ _ _ _ _ w) (by kernel_rfl)) ?_
  refine L_nil (show cL _ _ _ _ _ from ?_)
  refine cL_if false rfl ?_
  refine cL_skip (show cT 32 _ _ _ from ?_)
  refine cT_step 32 (cL_seq (cL_region ?_))
  refine L_run 304 (.map (some (B + jt3 a3))) M (fun w M => ex_move _) ?_
  refine L_run 305 (.int .i64 1) M (fun w M => ex_len _ _ (fun ty => run_lenmap ty Yba.underlying25 (M.get (i := jt3 a3) FE.theirs))) ?_
  refine L_run 306 (.bool false) M (fun w M => ex_bin (.int .i64 1) (.int .i64 1) (.bool false) (gdi _ _ _ _ _ _ _ w) (by kernel_rfl)) ?_
  refine L_run 307 (.bool false) M (fun w M => ex_move _) ?_
  refine L_run 308 (.map (some (B + jt3 a3))) M (fun w M => ex_move _) ?_
  refine L_run 309 (.string a1) M (fun w M => ex_move _) ?_
  refine L_run 310 (.pointer (some ⟨B + 14, 0, none⟩)) M (fun w M => ex_lookup _ _ _ (run_look Yba.underlying25 (M.get (i := jt3 a3) FE.theirs) (ck9 a1 _ _) (find_hit w Yba.underlying9 _ _ _ _ (same_str a1)) false)) ?_
  refine L_run 311 (.pointer (some ⟨B + 14, 0, none⟩)) M (fun w M => ex_move _) ?_
  refine L_run 312 (.bool false) M (fun w M => ex_bin _ _ _ (gdp _ _ _ _ _ _ w (.inr rfl)) (ne58 (some ⟨B + 14, 0, none⟩) w)) ?_
  refine L_run 313 (.bool false) M (fun w M => ex_pick false _) ?_
  refine L_run 314 (.bool false) M (fun w M => ex_move _) ?_
  refine L_run 315 (.pointer (some ⟨B + 14, 0, none⟩)) M (fun w M => ex_move _) ?_
  refine L_run 316 (.pointer (some ⟨B + 14, 0, none⟩)) M (fun w M => ex_nil _) ?_
  refine L_run 317 (.pointer (some ⟨B + 14, 0, none⟩)) M (fun w M => ex_field _ _ (fa60_0 (B + 14))) ?_
  refine L_run 318 (.pointer (some ⟨B + 12, 0, none⟩)) M (fun w M => ex_load _ _ (run_load1 M (j := 14) (i := 0) FE.keep rfl under45 rfl)) ?_
  refine L_run 319 (.pointer (some ⟨B + 12, 0, none⟩)) M (fun w M => ex_move _) ?_
  refine L_run 320 (.bool false) M (fun w M => ex_bin _ _ _ (gdp _ _ _ _ _ _ w (.inr rfl)) (ne45 (some ⟨B + 12, 0, none⟩) w)) ?_
  refine L_run 321 (.bool false) M (fun w M => ex_pick false _) ?_
  refine L_run 322 (.bool false) M (fun w M => ex_move _) ?_
  refine L_run 323 (.pointer (some ⟨B + 14, 0, none⟩)) M (fun w M => ex_move _) ?_
  refine L_run 324 (.pointer (some ⟨B + 14, 0, none⟩)) M (fun w M => ex_nil _) ?_
  refine L_run 325 (.pointer (some ⟨B + 14, 1, none⟩)) M (fun w M => ex_field _ _ (fa60_1 (B + 14))) ?_
  refine L_run 326 (.pointer none) M (fun w M => ex_load _ _ (run_load1 M (j := 14) (i := 1) FE.keep rfl under45 rfl)) ?_
  refine L_run 327 (.bool false) M (fun w M => ex_bin _ _ _ (gdp _ _ _ _ _ _ w (.inr rfl)) (ne45 none w)) ?_
  refine L_run 328 (.bool false) M (fun w M => ex_pick false _) ?_
  refine L_nil (show cL _ _ _ _ _ from ?_)
  refine cL_if false rfl ?_
  refine cL_skip (show cT 33 _ _ _ from ?_)
  rcases FE.clients with ⟨rfl, hcl⟩ | ⟨hr, c0, hcl⟩
  · refine cT_step 33 (cL_seq (cL_region ?_))
    refine L_run 329 (.int .u8 a6) M (fun w M => ex_move _) ?_
    refine L_run 330 (.int .u8 2) M (fun w M => ex_bin (.int .u8 a6) (.int .u8 3) (.int .u8 2) (gdi _ _ _ _ _ _ _ w) (rem8 a6 3 2 (by decide) h6 w)) ?_
    refine L_run 331 (.bool true) M (fun w M => ex_bin (.int .u8 2) (.int .u8 2) (.bool true) (gdi _ _ _ _ _ _ _ w) (by kernel_rfl)) ?_
    refine L_nil (show cL _ _ _ _ _ from ?_)
    refine cL_if true rfl ?_
    have hD := M.drews
    have hC := hD; clear hD
    refine cL_seq (cL_quiet ?_)
    refine q_run 332 (.pointer (some ⟨B + 8, 0, none⟩)) hC (fun w M => ex_move _) ?_
    refine q_run 333 (.pointer (some ⟨B + 8, 0, none⟩)) hC (fun w M => ex_nil _) ?_
    refine q_run 334 (.pointer (some ⟨B + 8, 12, none⟩)) hC (fun w M => ex_field _ _ (fa44_7 (B + 8))) ?_
    refine q_run 335 (.map (some (B + 0))) hC (fun w M => ex_load _ _ (run_load1 M (j := 8) (i := 12) hT T.clients Yba.underlying24 rfl)) ?_
    refine q_run 336 (.int .i64 1) hC (fun w M => ex_len _ _ (fun ty => run_lenmap ty Yba.underlying24 (M.get (i := 0) hcl))) ?_
    refine q_run 337 (.bool false) hC (fun w M => ex_bin (.int .i64 1) (.int .i64 1) (.bool false) (gdi _ _ _ _ _ _ _ w) (by kernel_rfl)) ?_
    refine q_run 338 (.bool false) hC (fun w M => ex_move _) ?_
    refine q_run 339 (.pointer (some ⟨B + 8, 0, none⟩)) hC (fun w M => ex_move _) ?_
    refine q_run 340 (.pointer (some ⟨B + 8, 0, none⟩)) hC (fun w M => ex_nil _) ?_
    refine q_run 341 (.pointer (some ⟨B + 8, 12, none⟩)) hC (fun w M => ex_field _ _ (fa44_7 (B + 8))) ?_
    refine q_run 342 (.map (some (B + 0))) hC (fun w M => ex_load _ _ (run_load1 M (j := 8) (i := 12) hT T.clients Yba.underlying24 rfl)) ?_
    refine q_run 343 (.pointer (some ⟨B + 10, 0, none⟩)) hC (fun w M => ex_move _) ?_
    refine q_run 344 (.pointer (some ⟨B + 10, 0, none⟩)) hC (fun w M => ex_nil _) ?_
    refine q_run 345 (.pointer (some ⟨B + 10, 0, none⟩)) hC (fun w M => ex_field _ _ (fa57_0 (B + 10))) ?_
    refine q_run 346 (.int .u64 a0) hC (fun w M => ex_load _ _ (run_load1 M (j := 10) (i := 0) hCC C.id Yba.underlying46 rfl)) ?_
    refine q_run 347 (.pointer (some ⟨B + 12, 0, none⟩)) hC (fun w M => ex_lookup _ _ _ (run_look Yba.underlying24 (M.get (i := 0) hcl) (ck46 a0 _ _) (find_hit w Yba.underlying46 _ _ _ _ (same_int a0)) false)) ?_
    refine q_run 348 (.pointer (some ⟨B + 12, 0, none⟩)) hC (fun w M => ex_move _) ?_
    refine q_run 349 (.bool false) hC (fun w M => ex_bin _ _ _ (gdp _ _ _ _ _ _ w (.inr rfl)) (ne45 (some ⟨B + 12, 0, none⟩) w)) ?_
    refine q_run 350 (.bool false) hC (fun w M => ex_pick false _) ?_
    refine q_done hC ?_; clear hC M; intro w M; show cL _ _ _ _ _
    refine cL_if false rfl ?_
    refine cL_skip (show cT 34 _ _ _ from ?_)
    refine cT_step 34 (cL_seq (cL_region ?_))
    refine L_run 357 (.pointer (some ⟨B + 10, 0, none⟩)) M (fun w M => ex_move _) ?_
    refine L_run 358 (.pointer (some ⟨B + 10, 0, none⟩)) M (fun w M => ex_nil _) ?_
    refine L_run 359 (.pointer (some ⟨B + 10, 18, none⟩)) M (fun w M => ex_field _ _ (fa57_9 (B + 10))) ?_
    refine L_run 360 (.map (some (B + 9))) M (fun w M => ex_load _ _ (run_load1 M (j := 10) (i := 18) hCC C.sessions Yba.underlying26 rfl)) ?_
    refine L_run 361 (.int .i64 0) M (fun w M => ex_len _ _ (fun ty => run_lenmap ty Yba.underlying26 (M.get (i := 9) h9))) ?_
    refine L_run 362 (.bool false) M (fun w M => ex_bin (.int .i64 0) (.int .i64 0) (.bool false) (gdi _ _ _ _ _ _ _ w) (by kernel_rfl)) ?_
    refine L_nil (show cL _ _ _ _ _ from ?_)
    refine cL_if false rfl ?_
    refine cL_skip (show cT 35 _ _ _ from ?_)
    exact cL_as [(0, .int .u64 a0), (1, .string a1), (2, .string a2), (3, .bool a3), (4, .int .u8 a4), (5, .bool a5), (6, .int .u8 a6), (7, .bool a7), (8, .int .u64 a8), (19, .pointer (some ⟨B + 8, 0, none⟩)), (20, .pointer (some ⟨B + 10, 0, none⟩)), (21, .pointer (some ⟨B + 12, 0, none⟩)), (22, .pointer (some ⟨B + 13, 0, none⟩)), (26, .pointer (some ⟨B + 14, 0, none⟩)), (27, .pointer (bif false then some ⟨B + 15, 0, none⟩ else none)), (28, .pointer (some ⟨B + nn false, 0, none⟩)), (29, .pointer (some ⟨B + (nn false + 1), 0, none⟩)), (30, .int .u64 a8), (31, .pointer (bif a7 then some ⟨B + (nn false + 3), 0, none⟩ else none)), (32, .pointer (bif a7 then some ⟨B + (nn false + 5), 0, none⟩ else none)), (24, .map (some (B + jo3 a3))), (25, .map (some (B + jt3 a3))), (33, .pointer pc1), (34, .pointer pu1), (35, .bool true)] (by repeat (first | exact trivial | refine And.intro rfl ?_)) (next _ _ M)
  · refine cT_step 33 (cL_seq (cL_region ?_))
    refine L_run 329 (.int .u8 a6) M (fun w M => ex_move _) ?_
    refine L_run 330 (.int .u8 r) M (fun w M => ex_bin (.int .u8 a6) (.int .u8 3) (.int .u8 r) (gdi _ _ _ _ _ _ _ w) (rem8 a6 3 r (by decide) h6 w)) ?_
    refine L_run 331 (.bool false) M (fun w M => ex_bin (.int .u8 r) (.int .u8 2) (.bool false) (gdi _ _ _ _ _ _ _ w) (eql8_ne hr w)) ?_
    refine L_nil (show cL _ _ _ _ _ from ?_)
    refine cL_if false rfl ?_
    refine cL_seq (cL_region ?_)
    refine L_run 351 (.pointer (some ⟨B + 8, 0, none⟩)) M (fun w M => ex_move _) ?_
    refine L_run 352 (.pointer (some ⟨B + 8, 0, none⟩)) M (fun w M => ex_nil _) ?_
    refine L_run 353 (.pointer (some ⟨B + 8, 12, none⟩)) M (fun w M => ex_field _ _ (fa44_7 (B + 8))) ?_
    refine L_run 354 (.map (some (B + 0))) M (fun w M => ex_load _ _ (run_load1 M (j := 8) (i := 12) hT T.clients Yba.underlying24 rfl)) ?_
    refine L_run 355 (.int .i64 0) M (fun w M => ex_len _ _ (fun ty => run_lenmap ty Yba.underlying24 (M.get (i := 0) hcl))) ?_
    refine L_run 356 (.bool false) M (fun w M => ex_bin (.int .i64 0) (.int .i64 0) (.bool false) (gdi _ _ _ _ _ _ _ w) (by kernel_rfl)) ?_
    refine L_nil (show cL _ _ _ _ _ from ?_)
    refine cL_if false rfl ?_
    refine cL_skip (show cT 34 _ _ _ from ?_)
    refine cT_step 34 (cL_seq (cL_region ?_))
    refine L_run 357 (.pointer (some ⟨B + 10, 0, none⟩)) M (fun w M => ex_move _) ?_
    refine L_run 358 (.pointer (some ⟨B + 10, 0, none⟩)) M (fun w M => ex_nil _) ?_
    refine L_run 359 (.pointer (some ⟨B + 10, 18, none⟩)) M (fun w M => ex_field _ _ (fa57_9 (B + 10))) ?_
    refine L_run 360 (.map (some (B + 9))) M (fun w M => ex_load _ _ (run_load1 M (j := 10) (i := 18) hCC C.sessions Yba.underlying26 rfl)) ?_
    refine L_run 361 (.int .i64 0) M (fun w M => ex_len _ _ (fun ty => run_lenmap ty Yba.underlying26 (M.get (i := 9) h9))) ?_
    refine L_run 362 (.bool false) M (fun w M => ex_bin (.int .i64 0) (.int .i64 0) (.bool false) (gdi _ _ _ _ _ _ _ w) (by kernel_rfl)) ?_
    refine L_nil (show cL _ _ _ _ _ from ?_)
    refine cL_if false rfl ?_
    refine cL_skip (show cT 35 _ _ _ from ?_)
    exact cL_as [(0, .int .u64 a0), (1, .string a1), (2, .string a2), (3, .bool a3), (4, .int .u8 a4), (5, .bool a5), (6, .int .u8 a6), (7, .bool a7), (8, .int .u64 a8), (19, .pointer (some ⟨B + 8, 0, none⟩)), (20, .pointer (some ⟨B + 10, 0, none⟩)), (21, .pointer (some ⟨B + 12, 0, none⟩)), (22, .pointer (some ⟨B + 13, 0, none⟩)), (26, .pointer (some ⟨B + 14, 0, none⟩)), (27, .pointer (bif false then some ⟨B + 15, 0, none⟩ else none)), (28, .pointer (some ⟨B + nn false, 0, none⟩)), (29, .pointer (some ⟨B + (nn false + 1), 0, none⟩)), (30, .int .u64 a8), (31, .pointer (bif a7 then some ⟨B + (nn false + 3), 0, none⟩ else none)), (32, .pointer (bif a7 then some ⟨B + (nn false + 5), 0, none⟩ else none)), (24, .map (some (B + jo3 a3))), (25, .map (some (B + jt3 a3))), (33, .pointer pc1), (34, .pointer pu1), (35, .bool true)] (by repeat (first | exact trivial | refine And.intro rfl ?_)) (next _ _ M)
set_option maxRecDepth 100000 in
theorem phE_sn (a0 : Int) (a1 a2 : ByteArray) (a3 : Bool) (a4 : Int) (a5 : Bool) (a6 : Int) (a7 : Bool) (a8 : Int) (w0 w : World) (B : Nat) (R : Ending → World → Prop) (s : Nat → Value) (r : Int) (pc1 pu1 : Option Addr) (L : List Obj) (h6 : a6.tmod 3 = r) (FE : FinE L B a0 a1 a2 true false (jo3 a3) (jt3 a3) pc1 pu1 r) (M : Mem w0 w B L)
    (next : ∀ (s' : Nat → Value) (w' : World), Mem w0 w' B L → cT 35 (bodyPost Yba.prog Yba.f3 R) (look [(0, .int .u64 a0), (1, .string a1), (2, .string a2), (3, .bool a3), (4, .int .u8 a4), (5, .bool a5), (6, .int .u8 a6), (7, .bool a7), (8, .int .u64 a8), (19, .pointer (some ⟨B + 8, 0, none⟩)), (20, .pointer (some ⟨B + 10, 0, none⟩)), (21, .pointer (some ⟨B + 12, 0, none⟩)), (22, .pointer (some ⟨B + 13, 0, none⟩)), (26, .pointer (some ⟨B + 14, 0, none⟩)), (27, .pointer (bif true then some ⟨B + 15, 0, none⟩ else none)), (28, .pointer (some ⟨B + nn true, 0, none⟩)), (29, .pointer (some ⟨B + (nn true + 1), 0, none⟩)), (30, .int .u64 a8), (31, .pointer (bif a7 then some ⟨B + (nn true + 3), 0, none⟩ else none)), (32, .pointer (bif a7 then some ⟨B + (nn true + 5), 0, none⟩ else none)), (24, .map (some (B + jo3 a3))), (25, .map (some (B + jt3 a3))), (33, .pointer pc1), (34, .pointer pu1), (35, .bool false)] s') w') :
    cT 25 (bodyPost Yba.prog Yba.f3 R) (look [(0, .int .u64 a0), (1, .string a1), (2, .string a2), (3, .bool a3), (4, .int .u8 a4), (5, .bool a5), (6, .int .u8 a6), (7, .bool a7), (8, .int .u64 a8), (19, .pointer (some ⟨B + 8, 0, none⟩)), (20, .pointer (some ⟨B + 10, 0, none⟩)), (21, .pointer (some ⟨B + 12, 0, none⟩)), (22, .pointer (some ⟨B + 13, 0, none⟩)), (26, .pointer (some ⟨B + 14, 0, none⟩)), (27, .pointer (bif true then some ⟨B + 15, 0, none⟩ else none)), (28, .pointer (some ⟨B + nn true, 0, none⟩)), (29, .pointer (some ⟨B + (nn true + 1), 0, none⟩)), (30, .int .u64 a8), (31, .pointer (bif a7 then some ⟨B + (nn true + 3), 0, none⟩ else none)), (32, .pointer (bif a7 then some ⟨B + (nn true + 5), 0, none⟩ else none)), (24, .map (some (B + jo3 a3))), (25, .map (some (B + jt3 a3))), (33, .pointer pc1), (34, .pointer pu1), (35, .bool false)] s) w := by
  obtain ⟨CT, hT, T⟩ := FE.tab
  obtain ⟨CC, ow, m0, hCC, C⟩ := FE.cli
  obtain ⟨es, c, hm, MO⟩ := FE.mine
  obtain ⟨c9, h9⟩ := FE.cses
  have hsz : es.size = 1 := MO.size
  obtain ⟨i2, f2⟩ := MO.find2 rfl
  refine cT_step 25 (cL_seq (cL_region ?_))
  refine L_run 242 (.pointer (some ⟨B + 13, 0, none⟩)) M (fun w M => ex_move _) ?_
  refine L_run 243 (.pointer (some ⟨B + 13, 0, none⟩)) M (fun w M => ex_nil _) ?_
  refine L_run 244 (.pointer (some ⟨B + 13, 0, none⟩)) M (fun w M => ex_field _ _ (fa60_0 (B + 13))) ?_
  refine L_run 245 (.pointer pc1) M (fun w M => ex_load _ _ (run_load1 M (j := 13) (i := 0) FE.o rfl under45 rfl)) ?_
  refine L_run 246 (.pointer pc1) M (fun w M => ex_move _) ?_
  refine L_run 247 (.bool false) M (fun w M => ex_bin _ _ _ (gdp _ _ _ _ _ _ w (.inr rfl)) (ne45 pc1 w)) ?_
  refine L_run 248 (.bool false) M (fun w M => ex_move _) ?_
  refine L_run 249 (.pointer (some ⟨B + 13, 0, none⟩)) M (fun w M => ex_move _) ?_
  refine L_run 250 (.pointer (some ⟨B + 13, 0, none⟩)) M (fun w M => ex_nil _) ?_
  refine L_run 251 (.pointer (some ⟨B + 13, 1, none⟩)) M (fun w M => ex_field _ _ (fa60_1 (B + 13))) ?_
  refine L_run 252 (.pointer pu1) M (fun w M => ex_load _ _ (run_load1 M (j := 13) (i := 1) FE.o rfl under45 rfl)) ?_
  refine L_run 253 (.pointer pu1) M (fun w M => ex_move _) ?_
  refine L_run 254 (.bool false) M (fun w M => ex_bin _ _ _ (gdp _ _ _ _ _ _ w (.inr rfl)) (ne45 pu1 w)) ?_
  refine L_run 255 (.bool false) M (fun w M => ex_pick false _) ?_
  refine L_nil (show cL _ _ _ _ _ from ?_)
  refine cL_if false rfl ?_
  refine cL_skip (show cT 26 _ _ _ from ?_)
  refine cT_step 26 (cL_region ?_)
  refine L_run 257 (.map (some (B + jo3 a3))) M (fun w M => ex_move _) ?_
  refine L_run 258 (.string a1) M (fun w M => ex_move _) ?_
  refine L_run 259 (.tuple #[.pointer none, .bool false]) M (fun w M => ex_lookup _ _ _ (run_look_none (v := .pointer none) Yba.underlying25 (M.get (i := jo3 a3) hm) (ck9 a1 _ _) (MO.find w) (by kernel_rfl) true)) ?_
  refine L_run 256 (.tuple #[.pointer none, .bool false]) M (fun w M => ex_move _) ?_
  refine L_run 260 (.pointer none) M (fun w M => ex_extract (.tuple #[.pointer none, .bool false]) (.pointer none) (fun w => by kernel_rfl)) ?_
  refine L_run 261 (.bool false) M (fun w M => ex_extract (.tuple #[.pointer none, .bool false]) (.bool false) (fun w => by kernel_rfl)) ?_
  refine L_run 36 (.pointer none) M (fun w M => ex_move _) ?_
  refine L_run 37 (.bool false) M (fun w M => ex_move _) ?_
  refine L_nil (show cT 27 _ _ _ from ?_)
  refine cT_step 27 (cL_seq (cL_region ?_))
  refine L_run 262 (.bool false) M (fun w M => ex_move _) ?_
  refine L_run 263 (.bool false) M (fun w M => ex_move _) ?_
  refine L_run 264 (.bool false) M (fun w M => ex_bin (.bool false) (.bool false) (.bool false) (by kernel_rfl) (by kernel_rfl)) ?_
  refine L_run 265 (.bool false) M (fun w M => ex_move _) ?_
  refine L_run 266 (.bool false) M (fun w M => ex_move _) ?_
  refine L_run 267 (.bool false) M (fun w M => ex_move _) ?_
  refine L_pass 268 ?_
  refine L_pass 269 ?_
  refine L_pass 270 ?_
  refine L_run 271 (.bool false) M (fun w M => ex_pick false _) ?_
  refine L_run 272 (.bool false) M (fun w M => ex_pick false _) ?_
  refine L_nil (show cL _ _ _ _ _ from ?_)
  refine cL_if false rfl ?_
  refine cL_skip (show cT 28 _ _ _ from ?_)
  refine cT_step 28 (cL_region ?_)
  refine L_run 38 (.int .i64 0) M (fun w M => ex_move _) ?_
  refine L_nil (show cT 29 _ _ _ from ?_)
  refine cT_step 29 (cL_seq (cL_region ?_))
  refine L_run 273 (.bool false) M (fun w M => ex_move _) ?_
  refine L_nil (show cL _ _ _ _ _ from ?_)
  refine cL_if false rfl ?_
  refine cL_skip (show cT 30 _ _ _ from ?_)
  refine cT_step 30 (cL_seq (cL_region ?_))
  refine L_run 276 (.pointer (some ⟨B + 15, 0, none⟩)) M (fun w M => ex_move _) ?_
  refine L_run 277 (.bool true) M (fun w M => ex_bin _ _ _ (gdp _ _ _ _ _ _ w (.inr rfl)) (ne58nil _ w)) ?_
  refine L_nil (show cL _ _ _ _ _ from ?_)
  refine cL_if true rfl ?_
  refine cL_seq (cL_region ?_)
  refine L_run 278 (.int .i64 0) M (fun w M => ex_move _) ?_
  refine L_run 279 (.int .i64 1) M (fun w M => ex_bin (.int .i64 0) (.int .i64 1) (.int .i64 1) (gdi _ _ _ _ _ _ _ w) (by kernel_rfl)) ?_
  refine L_run 38 (.int .i64 1) M (fun w M => ex_move _) ?_
  refine L_nil (show cL _ _ _ _ _ from ?_)
  refine cL_seq (cL_region ?_)
  refine L_run 280 (.map (some (B + jo3 a3))) M (fun w M => ex_move _) ?_
  refine L_run 281 (.string a2) M (fun w M => ex_move _) ?_
  refine L_run 282 (.pointer (some ⟨B + 15, 0, none⟩)) M (fun w M => ex_lookup _ _ _ (run_look Yba.underlying25 (M.get (i := jo3 a3) hm) (ck9 a2 _ _) (f2 w) false)) ?_
  refine L_run 283 (.pointer (some ⟨B + 15, 0, none⟩)) M (fun w M => ex_move _) ?_
  refine L_run 284 (.bool false) M (fun w M => ex_bin _ _ _ (gdp _ _ _ _ _ _ w (.inr rfl)) (ne58 (some ⟨B + 15, 0, none⟩) w)) ?_
  refine L_run 285 (.bool false) M (fun w M => ex_move _) ?_
  refine L_run 286 (.pointer (some ⟨B + 15, 0, none⟩)) M (fun w M => ex_move _) ?_
  refine L_run 287 (.pointer (some ⟨B + 15, 0, none⟩)) M (fun w M => ex_nil _) ?_
  refine L_run 288 (.pointer (some ⟨B + 15, 0, none⟩)) M (fun w M => ex_field _ _ (fa60_0 (B + 15))) ?_
  refine L_run 289 (.pointer none) M (fun w M => ex_load _ _ (run_load1 M (j := 15) (i := 0) (FE.strg rfl) rfl under45 rfl)) ?_
  refine L_run 290 (.bool false) M (fun w M => ex_bin _ _ _ (gdp _ _ _ _ _ _ w (.inr rfl)) (ne45 none w)) ?_
  refine L_run 291 (.bool false) M (fun w M => ex_pick false _) ?_
  refine L_run 292 (.bool false) M (fun w M => ex_move _) ?_
  refine L_run 293 (.pointer (some ⟨B + 15, 0, none⟩)) M (fun w M => ex_move _) ?_
  refine L_run 294 (.pointer (some ⟨B + 15, 0, none⟩)) M (fun w M => ex_nil _) ?_
  refine L_run 295 (.pointer (some ⟨B + 15, 1, none⟩)) M (fun w M => ex_field _ _ (fa60_1 (B + 15))) ?_
  refine L_run 296 (.pointer (some ⟨B + 12, 0, none⟩)) M (fun w M => ex_load _ _ (run_load1 M (j := 15) (i := 1) (FE.strg rfl) rfl under45 rfl)) ?_
  refine L_run 297 (.pointer (some ⟨B + 12, 0, none⟩)) M (fun w M => ex_move _) ?_
  refine L_run 298 (.bool false) M (fun w M => ex_bin _ _ _ (gdp _ _ _ _ _ _ w (.inr rfl)) (ne45 (some ⟨B + 12, 0, none⟩) w)) ?_
  refine L_run 299 (.bool false) M (fun w M => ex_pick false _) ?_
  refine L_nil (show cL _ _ _ _ _ from ?_)
  refine cL_if false rfl ?_
  refine cL_skip (show cT 31 _ _ _ from ?_)
  refine cT_step 31 (cL_seq (cL_region ?_))
  refine L_run 300 (.map (some (B + jo3 a3))) M (fun w M => ex_move _) ?_
  refine L_run 301 (.int .i64 1) M (fun w M => ex_len _ _ (fun ty => by rw [run_lenmap ty Yba.underlying25 (M.get (i := jo3 a3) hm), hsz]; rfl)) ?_
  refine L_run 302 (.int .i64 1) M (fun w M => ex_move _) ?_
  refine L_run 303 (.bool false) M (fun w M => ex_bin (.int .i64 1) (.int .i64 1) (.bool false) (gdi _ _ _ _ _ _ _ w) (by kernel_rfl)) ?_
  refine L_nil (show cL _ _ _ _ _ from ?_)
  refine cL_if false rfl ?_
  refine cL_skip (show cT 32 _ _ _ from ?_)
  refine cT_step 32 (cL_seq (cL_region ?_))
  refine L_run 304 (.map (some (B + jt3 a3))) M (fun w M => ex_move _) ?_
  refine L_run 305 (.int .i64 1) M (fun w M => ex_len _ _ (fun ty => run_lenmap ty Yba.underlying25 (M.get (i := jt3 a3) FE.theirs))) ?_
  refine L_run 306 (.bool false) M (fun w M => ex_bin (.int .i64 1) (.int .i64 1) (.bool false) (gdi _ _ _ _ _ _ _ w) (by kernel_rfl)) ?_
  refine L_run 307 (.bool false) M (fun w M => ex_move _) ?_
  refine L_run 308 (.map (some (B + jt3 a3))) M (fun w M => ex_move _) ?_
  refine L_run 309 (.string a1) M (fun w M => ex_move _) ?_
  refine L_run 310 (.pointer (some ⟨B + 14, 0, none⟩)) M (fun w M => ex_lookup _ _ _ (run_look Yba.underlying25 (M.get (i := jt3 a3) FE.theirs) (ck9 a1 _ _) (find_hit w Yba.underlying9 _ _ _ _ (same_str a1)) false)) ?_
  refine L_run 311 (.pointer (some ⟨B + 14, 0, none⟩)) M (fun w M => ex_move _) ?_
  refine L_run 312 (.bool false) M (fun w M => ex_bin _ _ _ (gdp _ _ _ _ _ _ w (.inr rfl)) (ne58 (some ⟨B + 14, 0, none⟩) w)) ?_
  refine L_run 313 (.bool false) M (fun w M => ex_pick false _) ?_
  refine L_run 314 (.bool false) M (fun w M => ex_move _) ?_
  refine L_run 315 (.pointer (some ⟨B + 14, 0, none⟩)) M (fun w M => ex_move _) ?_
  refine L_run 316 (.pointer (some ⟨B + 14, 0, none⟩)) M (fun w M => ex_nil _) ?_
  refine L_run 317 (.pointer (some ⟨B + 14, 0, none⟩)) M (fun w M => ex_field _ _ (fa60_0 (B + 14))) ?_
  refine L_run 318 (.pointer (some ⟨B + 12, 0, none⟩)) M (fun w M => ex_load _ _ (run_load1 M (j := 14) (i := 0) FE.keep rfl under45 rfl)) ?_
  refine L_run 319 (.pointer (some ⟨B + 12, 0, none⟩)) M (fun w M => ex_move _) ?_
  refine L_run 320 (.bool false) M (fun w M => ex_bin _ _ _ (gdp _ _ _ _ _ _ w (.inr rfl)) (ne45 (some ⟨B + 12, 0, none⟩) w)) ?_
  refine L_run 321 (.bool false) M (fun w M => ex_pick false _) ?_
  refine L_run 322 (.bool false) M (fun w M => ex_move _) ?_
  refine L_run 323 (.pointer (some ⟨B + 14, 0, none⟩)) M (fun w M => ex_move _) ?_
  refine L_run 324 (.pointer (some ⟨B + 14, 0, none⟩)) M (fun w M => ex_nil _) ?_
  refine L_run 325 (.pointer (some ⟨B + 14, 1, none⟩)) M (fun w M => ex_field _ _ (fa60_1 (B + 14))) ?_
  refine L_run 326 (.pointer none) M (fun w M => ex_load _ _ (run_load1 M (j := 14) (i := 1) FE.keep rfl under45 rfl)) ?_
  refine L_run 327 (.bool false) M (fun w M => ex_bin _ _ _ (gdp _ _ _ _ _ _ w (.inr rfl)) (ne45 none w)) ?_
  refine L_run 328 (.bool false) M (fun w M => ex_pick false _) ?_
  refine L_nil (show cL _ _ _ _ _ from ?_)
  refine cL_if false rfl ?_
  refine cL_skip (show cT 33 _ _ _ from ?_)
  rcases FE.clients with ⟨rfl, hcl⟩ | ⟨hr, c0, hcl⟩
  · refine cT_step 33 (cL_seq (cL_region ?_))
    refine L_run 329 (.int .u8 a6) M (fun w M => ex_move _) ?_
    refine L_run 330 (.int .u8 2) M (fun w M => ex_bin (.int .u8 a6) (.int .u8 3) (.int .u8 2) (gdi _ _ _ _ _ _ _ w) (rem8 a6 3 2 (by decide) h6 w)) ?_
    refine L_run 331 (.bool true) M (fun w M => ex_bin (.int .u8 2) (.int .u8 2) (.bool true) (gdi _ _ _ _ _ _ _ w) (by kernel_rfl)) ?_
    refine L_nil (show cL _ _ _ _ _ from ?_)
    refine cL_if true rfl ?_
    have hD := M.drews
    have hC := hD; clear hD
    refine cL_seq (cL_quiet ?_)
    refine q_run 332 (.pointer (some ⟨B + 8, 0, none⟩)) hC (fun w M => ex_move _) ?_
    refine q_run 333 (.pointer (some ⟨B + 8, 0, none⟩)) hC (fun w M => ex_nil _) ?_
    refine q_run 334 (.pointer (some ⟨B + 8, 12, none⟩)) hC (fun w M => ex_field _ _ (fa44_7 (B + 8))) ?_
    refine q_run 335 (.map (some (B + 0))) hC (fun w M => ex_load _ _ (run_load1 M (j := 8) (i := 12) hT T.clients Yba.underlying24 rfl)) ?_
    refine q_run 336 (.int .i64 1) hC (fun w M => ex_len _ _ (fun ty => run_lenmap ty Yba.underlying24 (M.get (i := 0) hcl))) ?_
    refine q_run 337 (.bool false) hC (fun w M => ex_bin (.int .i64 1) (.int .i64 1) (.bool false) (gdi _ _ _ _ _ _ _ w) (by kernel_rfl)) ?_
    refine q_run 338 (.bool false) hC (fun w M => ex_move _) ?_
    refine q_run 339 (.pointer (some ⟨B + 8, 0, none⟩)) hC (fun w M => ex_move _) ?_
    refine q_run 340 (.pointer (some ⟨B + 8, 0, none⟩)) hC (fun w M => ex_nil _) ?_
    refine q_run 341 (.pointer (some ⟨B + 8, 12, none⟩)) hC (fun w M => ex_field _ _ (fa44_7 (B + 8))) ?_
    refine q_run 342 (.map (some (B + 0))) hC (fun w M => ex_load _ _ (run_load1 M (j := 8) (i := 12) hT T.clients Yba.underlying24 rfl)) ?_
    refine q_run 343 (.pointer (some ⟨B + 10, 0, none⟩)) hC (fun w M => ex_move _) ?_
    refine q_run 344 (.pointer (some ⟨B + 10, 0, none⟩)) hC (fun w M => ex_nil _) ?_
    refine q_run 345 (.pointer (some ⟨B + 10, 0, none⟩)) hC (fun w M => ex_field _ _ (fa57_0 (B + 10))) ?_
    refine q_run 346 (.int .u64 a0) hC (fun w M => ex_load _ _ (run_load1 M (j := 10) (i := 0) hCC C.id Yba.underlying46 rfl)) ?_
    refine q_run 347 (.pointer (some ⟨B + 12, 0, none⟩)) hC (fun w M => ex_lookup _ _ _ (run_look Yba.underlying24 (M.get (i := 0) hcl) (ck46 a0 _ _) (find_hit w Yba.underlying46 _ _ _ _ (same_int a0)) false)) ?_
    refine q_run 348 (.pointer (some ⟨B + 12, 0, none⟩)) hC (fun w M => ex_move _) ?_
    refine q_run 349 (.bool false) hC (fun w M => ex_bin _ _ _ (gdp _ _ _ _ _ _ w (.inr rfl)) (ne45 (some ⟨B + 12, 0, none⟩) w)) ?_
    refine q_run 350 (.bool false) hC (fun w M => ex_pick false _) ?_
    refine q_done hC ?_; clear hC M; intro w M; show cL _ _ _ _ _
    refine cL_if false rfl ?_
    refine cL_skip (show cT 34 _ _ _ from ?_)
    refine cT_step 34 (cL_seq (cL_region ?_))
    refine L_run 357 (.pointer (some ⟨B + 10, 0, none⟩)) M (fun w M => ex_move _) ?_
    refine L_run 358 (.pointer (some ⟨B + 10, 0, none⟩)) M (fun w M => ex_nil _) ?_
    refine L_run 359 (.pointer (some ⟨B + 10, 18, none⟩)) M (fun w M => ex_field _ _ (fa57_9 (B + 10))) ?_
    refine L_run 360 (.map (some (B + 9))) M (fun w M => ex_load _ _ (run_load1 M (j := 10) (i := 18) hCC C.sessions Yba.underlying26 rfl)) ?_
    refine L_run 361 (.int .i64 0) M (fun w M => ex_len _ _ (fun ty => run_lenmap ty Yba.underlying26 (M.get (i := 9) h9))) ?_
    refine L_run 362 (.bool false) M (fun w M => ex_bin (.int .i64 0) (.int .i64 0) (.bool false) (gdi _ _ _ _ _ _ _ w) (by kernel_rfl)) ?_
    refine L_nil (show cL _ _ _ _ _ from ?_)
    refine cL_if false rfl ?_
    refine cL_skip (show cT 35 _ _ _ from ?_)
    exact cL_as [(0, .int .u64 a0), (1, .string a1), (2, .string a2), (3, .bool a3), (4, .int .u8 a4), (5, .bool a5), (6, .int .u8 a6), (7, .bool a7), (8, .int .u64 a8), (19, .pointer (some ⟨B + 8, 0, none⟩)), (20, .pointer (some ⟨B + 10, 0, none⟩)), (21, .pointer (some ⟨B + 12, 0, none⟩)), (22, .pointer (some ⟨B + 13, 0, none⟩)), (26, .pointer (some ⟨B + 14, 0, none⟩)), (27, .pointer (bif true then some ⟨B + 15, 0, none⟩ else none)), (28, .pointer (some ⟨B + nn true, 0, none⟩)), (29, .pointer (some ⟨B + (nn true + 1), 0, none⟩)), (30, .int .u64 a8), (31, .pointer (bif a7 then some ⟨B + (nn true + 3), 0, none⟩ else none)), (32, .pointer (bif a7 then some ⟨B + (nn true + 5), 0, none⟩ else none)), (24, .map (some (B + jo3 a3))), (25, .map (some (B + jt3 a3))), (33, .pointer pc1), (34, .pointer pu1), (35, .bool false)] (by repeat (first | exact trivial | refine And.intro rfl ?_)) (next _ _ M)
  · refine cT_step 33 (cL_seq (cL_region ?_))
    refine L_run 329 (.int .u8 a6) M (fun w M => ex_move _) ?_
    refine L_run 330 (.int .u8 r) M (fun w M => ex_bin (.int .u8 a6) (.int .u8 3) (.int .u8 r) (gdi _ _ _ _ _ _ _ w) (rem8 a6 3 r (by decide) h6 w)) ?_
    refine L_run 331 (.bool false) M (fun w M => ex_bin (.int .u8 r) (.int .u8 2) (.bool false) (gdi _ _ _ _ _ _ _ w) (eql8_ne hr w)) ?_
    refine L_nil (show cL _ _ _ _ _ from ?_)
    refine cL_if false rfl ?_
    refine cL_seq (cL_region ?_)
    refine L_run 351 (.pointer (some ⟨B + 8, 0, none⟩)) M (fun w M => ex_move _) ?_
    refine L_run 352 (.pointer (some ⟨B + 8, 0, none⟩)) M (fun w M => ex_nil _) ?_
    refine L_run 353 (.pointer (some ⟨B + 8, 12, none⟩)) M (fun w M => ex_field _ _ (fa44_7 (B + 8))) ?_
    refine L_run 354 (.map (some (B + 0))) M (fun w M => ex_load _ _ (run_load1 M (j := 8) (i := 12) hT T.clients Yba.underlying24 rfl)) ?_
    refine L_run 355 (.int .i64 0) M (fun w M => ex_len _ _ (fun ty => run_lenmap ty Yba.underlying24 (M.get (i := 0) hcl))) ?_
    refine L_run 356 (.bool false) M (fun w M => ex_bin (.int .i64 0) (.int .i64 0) (.bool false) (gdi _ _ _ _ _ _ _ w) (by kernel_rfl)) ?_
    refine L_nil (show cL _ _ _ _ _ from ?_)
    refine cL_if false rfl ?_
    refine cL_skip (show cT 34 _ _ _ from ?_)
    refine cT_step 34 (cL_seq (cL_region ?_))
    refine L_run 357 (.pointer (some ⟨B + 10, 0, none⟩)) M (fun w M => ex_move _) ?_
    refine L_run 358 (.pointer (some ⟨B + 10, 0, none⟩)) M (fun w M => ex_nil _) ?_
    refine L_run 359 (.pointer (some ⟨B + 10, 18, none⟩)) M (fun w M => ex_field _ _ (fa57_9 (B + 10))) ?_
    refine L_run 360 (.map (some (B + 9))) M (fun w M => ex_load _ _ (run_load1 M (j := 10) (i := 18) hCC C.sessions Yba.underlying26 rfl)) ?_
    refine L_run 361 (.int .i64 0) M (fun w M => ex_len _ _ (fun ty => run_lenmap ty Yba.underlying26 (M.get (i := 9) h9))) ?_
    refine L_run 362 (.bool false) M (fun w M => ex_bin (.int .i64 0) (.int .i64 0) (.bool false) (gdi _ _ _ _ _ _ _ w) (by kernel_rfl)) ?_
    refine L_nil (show cL _ _ _ _ _ from ?_)
    refine cL_if false rfl ?_
    refine cL_skip (show cT 35 _ _ _ from ?_)
    exact cL_as [(0, .int .u64 a0), (1, .string a1), (2, .string a2), (3, .bool a3), (4, .int .u8 a4), (5, .bool a5), (6, .int .u8 a6), (7, .bool a7), (8, .int .u64 a8), (19, .pointer (some ⟨B + 8, 0, none⟩)), (20, .pointer (some ⟨B + 10, 0, none⟩)), (21, .pointer (some ⟨B + 12, 0, none⟩)), (22, .pointer (some ⟨B + 13, 0, none⟩)), (26, .pointer (some ⟨B + 14, 0, none⟩)), (27, .pointer (bif true then some ⟨B + 15, 0, none⟩ else none)), (28, .pointer (some ⟨B + nn true, 0, none⟩)), (29, .pointer (some ⟨B + (nn true + 1), 0, none⟩)), (30, .int .u64 a8), (31, .pointer (bif a7 then some ⟨B + (nn true + 3), 0, none⟩ else none)), (32, .pointer (bif a7 then some ⟨B + (nn true + 5), 0, none⟩ else none)), (24, .map (some (B + jo3 a3))), (25, .map (some (B + jt3 a3))), (33, .pointer pc1), (34, .pointer pu1), (35, .bool false)] (by repeat (first | exact trivial | refine And.intro rfl ?_)) (next _ _ M)
set_option maxRecDepth 100000 in
theorem phE_sk (a0 : Int) (a1 a2 : ByteArray) (a3 : Bool) (a4 : Int) (a5 : Bool) (a6 : Int) (a7 : Bool) (a8 : Int) (w0 w : World) (B : Nat) (R : Ending → World → Prop) (s : Nat → Value) (r : Int) (pc1 pu1 : Option Addr) (L : List Obj) (h6 : a6.tmod 3 = r) (FE : FinE L B a0 a1 a2 true true (jo3 a3) (jt3 a3) pc1 pu1 r) (M : Mem w0 w B L)
    (next : ∀ (s' : Nat → Value) (w' : World), Mem w0 w' B L → cT 35 (bodyPost Yba.prog Yba.f3 R) (look [(0, .int .u64 a0), (1, .string a1), (2, .string a2), (3, .bool a3), (4, .int .u8 a4), (5, .bool a5), (6, .int .u8 a6), (7, .bool a7), (8, .int .u64 a8), (19, .pointer (some ⟨B + 8, 0, none⟩)), (20, .pointer (some ⟨B + 10, 0, none⟩)), (21, .pointer (some ⟨B + 12, 0, none⟩)), (22, .pointer (some ⟨B + 13, 0, none⟩)), (26, .pointer (some ⟨B + 14, 0, none⟩)), (27, .pointer (bif true then some ⟨B + 15, 0, none⟩ else none)), (28, .pointer (some ⟨B + nn true, 0, none⟩)), (29, .pointer (some ⟨B + (nn true + 1), 0, none⟩)), (30, .int .u64 a8), (31, .pointer (bif a7 then some ⟨B + (nn true + 3), 0, none⟩ else none)), (32, .pointer (bif a7 then some ⟨B + (nn true + 5), 0, none⟩ else none)), (24, .map (some (B + jo3 a3))), (25, .map (some (B + jt3 a3))), (33, .pointer pc1), (34, .pointer pu1), (35, .bool true)] s') w') :
    cT 25 (bodyPost Yba.prog Yba.f3 R) (look [(0, .int .u64 a0), (1, .string a1), (2, .string a2), (3, .bool a3), (4, .int .u8 a4), (5, .bool a5), (6, .int .u8 a6), (7, .bool a7), (8, .int .u64 a8), (19, .pointer (some ⟨B + 8, 0, none⟩)), (20, .pointer (some ⟨B + 10, 0, none⟩)), (21, .pointer (some ⟨B + 12, 0, none⟩)), (22, .pointer (some ⟨B + 13, 0, none⟩)), (26, .pointer (some ⟨B + 14, 0, none⟩)), (27, .pointer (bif true then some ⟨B + 15, 0, none⟩ else none)), (28, .pointer (some ⟨B + nn true, 0, none⟩)), (29, .pointer (some ⟨B + (nn true + 1), 0, none⟩)), (30, .int .u64 a8), (31, .pointer (bif a7 then some ⟨B + (nn true + 3), 0, none⟩ else none)), (32, .pointer (bif a7 then some ⟨B + (nn true + 5), 0, none⟩ else none)), (24, .map (some (B + jo3 a3))), (25, .map (some (B + jt3 a3))), (33, .pointer pc1), (34, .pointer pu1), (35, .bool true)] s) w := by
  obtain ⟨CT, hT, T⟩ := FE.tab
  obtain ⟨CC, ow, m0, hCC, C⟩ := FE.cli
  obtain ⟨es, c, hm, MO⟩ := FE.mine
  obtain ⟨c9, h9⟩ := FE.cses
  have hsz : es.size = 2 := MO.size
  obtain ⟨i2, f2⟩ := MO.find2 rfl
  refine cT_step 25 (cL_seq (cL_region ?_))
  refine L_run 242 (.pointer (some ⟨B + 13, 0, none⟩)) M (fun w M => ex_move _) ?_
  refine L_run 243 (.pointer (some ⟨B + 13, 0, none⟩)) M (fun w M => ex_nil _) ?_
  refine L_run 244 (.pointer (some ⟨B + 13, 0, none⟩)) M (fun w M => ex_field _ _ (fa60_0 (B + 13))) ?_
  refine L_run 245 (.pointer pc1) M (fun w M => ex_load _ _ (run_load1 M (j := 13) (i := 0) FE.o rfl under45 rfl)) ?_
  refine L_run 246 (.pointer pc1) M (fun w M => ex_move _) ?_
  refine L_run 247 (.bool false) M (fun w M => ex_bin _ _ _ (gdp _ _ _ _ _ _ w (.inr rfl)) (ne45 pc1 w)) ?_
  refine L_run 248 (.bool false) M (fun w M => ex_move _) ?_
  refine L_run 249 (.pointer (some ⟨B + 13, 0, none⟩)) M (fun w M => ex_move _) ?_
  refine L_run 250 (.pointer (some ⟨B + 13, 0, none⟩)) M (fun w M => ex_nil _) ?_
  refine L_run 251 (.pointer (some ⟨B + 13, 1, none⟩)) M (fun w M => ex_field _ _ (fa60_1 (B + 13))) ?_
  refine L_run 252 (.pointer pu1) M (fun w M => ex_load _ _ (run_load1 M (j := 13) (i := 1) FE.o rfl under45 rfl)) ?_
  refine L_run 253 (.pointer pu1) M (fun w M => ex_move _) ?_
  refine L_run 254 (.bool false) M (fun w M => ex_bin _ _ _ (gdp _ _ _ _ _ _ w (.inr rfl)) (ne45 pu1 w)) ?_
  refine L_run 255 (.bool false) M (fun w M => ex_pick false _) ?_
  refine L_nil (show cL _ _ _ _ _ from ?_)
  refine cL_if false rfl ?_
  refine cL_skip (show cT 26 _ _ _ from ?_)
  refine cT_step 26 (cL_region ?_)
  refine L_run 257 (.map (some (B + jo3 a3))) M (fun w M => ex_move _) ?_
  refine L_run 258 (.string a1) M (fun w M => ex_move _) ?_
  refine L_run 259 (.tuple #[.pointer (some ⟨B + 13, 0, none⟩), .bool true]) M (fun w M => ex_lookup _ _ _ (run_look Yba.underlying25 (M.get (i := jo3 a3) hm) (ck9 a1 _ _) (MO.find w) true)) ?_
  refine L_run 256 (.tuple #[.pointer (some ⟨B + 13, 0, none⟩), .bool true]) M (fun w M => ex_move _) ?_
  refine L_run 260 (.pointer (some ⟨B + 13, 0, none⟩)) M (fun w M => ex_extract (.tuple #[.pointer (some ⟨B + 13, 0, none⟩), .bool true]) (.pointer (some ⟨B + 13, 0, none⟩)) (fun w => by kernel_rfl)) ?_
  refine L_run 261 (.bool true) M (fun w M => ex_extract (.tuple #[.pointer (some ⟨B + 13, 0, none⟩), .bool true]) (.bool true) (fun w => by kernel_rfl)) ?_
  refine L_run 36 (.pointer (some ⟨B + 13, 0, none⟩)) M (fun w M => ex_move _) ?_
  refine L_run 37 (.bool true) M (fun w M => ex_move _) ?_
  refine L_nil (show cT 27 _ _ _ from ?_)
  refine cT_step 27 (cL_seq (cL_region ?_))
  refine L_run 262 (.bool true) M (fun w M => ex_move _) ?_
  refine L_run 263 (.bool true) M (fun w M => ex_move _) ?_
  refine L_run 264 (.bool false) M (fun w M => ex_bin (.bool true) (.bool true) (.bool false) (by kernel_rfl) (by kernel_rfl)) ?_
  refine L_run 265 (.bool false) M (fun w M => ex_move _) ?_
  refine L_run 266 (.bool true) M (fun w M => ex_move _) ?_
  refine L_run 267 (.bool true) M (fun w M => ex_move _) ?_
  refine L_run 268 (.pointer (some ⟨B + 13, 0, none⟩)) M (fun w M => ex_move _) ?_
  refine L_run 269 (.pointer (some ⟨B + 13, 0, none⟩)) M (fun w M => ex_move _) ?_
  refine L_run 270 (.bool false) M (fun w M => ex_bin _ _ _ (gdp _ _ _ _ _ _ w (.inr rfl)) (ne58 (some ⟨B + 13, 0, none⟩) w)) ?_
  refine L_run 271 (.bool false) M (fun w M => ex_pick true _) ?_
  refine L_run 272 (.bool false) M (fun w M => ex_pick false _) ?_
  refine L_nil (show cL _ _ _ _ _ from ?_)
  refine cL_if false rfl ?_
  refine cL_skip (show cT 28 _ _ _ from ?_)
  refine cT_step 28 (cL_region ?_)
  refine L_run 38 (.int .i64 0) M (fun w M => ex_move _) ?_
  refine L_nil (show cT 29 _ _ _ from ?_)
  refine cT_step 29 (cL_seq (cL_region ?_))
  refine L_run 273 (.bool true) M (fun w M => ex_move _) ?_
  refine L_nil (show cL _ _ _ _ _ from ?_)
  refine cL_if true rfl ?_
  refine cL_region ?_
  refine L_run 274 (.int .i64 0) M (fun w M => ex_move _) ?_
  refine L_run 275 (.int .i64 1) M (fun w M => ex_bin (.int .i64 0) (.int .i64 1) (.int .i64 1) (gdi _ _ _ _ _ _ _ w) (by kernel_rfl)) ?_
  refine L_run 38 (.int .i64 1) M (fun w M => ex_move _) ?_
  refine L_nil (show cT 30 _ _ _ from ?_)
  refine cT_step 30 (cL_seq (cL_region ?_))
  refine L_run 276 (.pointer (some ⟨B + 15, 0, none⟩)) M (fun w M => ex_move _) ?_
  refine L_run 277 (.bool true) M (fun w M => ex_bin _ _ _ (gdp _ _ _ _ _ _ w (.inr rfl)) (ne58nil _ w)) ?_
  refine L_nil (show cL _ _ _ _ _ from ?_)
  refine cL_if true rfl ?_
  refine cL_seq (cL_region ?_)
  refine L_run 278 (.int .i64 1) M (fun w M => ex_move _) ?_
  refine L_run 279 (.int .i64 2) M (fun w M => ex_bin (.int .i64 1) (.int .i64 1) (.int .i64 2) (gdi _ _ _ _ _ _ _ w) (by kernel_rfl)) ?_
  refine L_run 38 (.int .i64 2) M (fun w M => ex_move _) ?_
  refine L_nil (show cL _ _ _ _ _ from ?_)
  refine cL_seq (cL_region ?_)
  refine L_run 280 (.map (some (B + jo3 a3))) M (fun w M => ex_move _) ?_
  refine L_run 281 (.string a2) M (fun w M => ex_move _) ?_
  refine L_run 282 (.pointer (some ⟨B + 15, 0, none⟩)) M (fun w M => ex_lookup _ _ _ (run_look Yba.underlying25 (M.get (i := jo3 a3) hm) (ck9 a2 _ _) (f2 w) false)) ?_
  refine L_run 283 (.pointer (some ⟨B + 15, 0, none⟩)) M (fun w M => ex_move _) ?_
  refine L_run 284 (.bool false) M (fun w M => ex_bin _ _ _ (gdp _ _ _ _ _ _ w (.inr rfl)) (ne58 (some ⟨B + 15, 0, none⟩) w)) ?_
  refine L_run 285 (.bool false) M (fun w M => ex_move _) ?_
  refine L_run 286 (.pointer (some ⟨B + 15, 0, none⟩)) M (fun w M => ex_move _) ?_
  refine L_run 287 (.pointer (some ⟨B + 15, 0, none⟩)) M (fun w M => ex_nil _) ?_
  refine L_run 288 (.pointer (some ⟨B + 15, 0, none⟩)) M (fun w M => ex_field _ _ (fa60_0 (B + 15))) ?_
  refine L_run 289 (.pointer none) M (fun w M => ex_load _ _ (run_load1 M (j := 15) (i := 0) (FE.strg rfl) rfl under45 rfl)) ?_
  refine L_run 290 (.bool false) M (fun w M => ex_bin _ _ _ (gdp _ _ _ _ _ _ w (.inr rfl)) (ne45 none w)) ?_
  refine L_run 291 (.bool false) M (fun w M => ex_pick false _) ?_
  refine L_run 292 (.bool false) M (fun w M => ex_move _) ?_
  refine L_run 293 (.pointer (some ⟨B + 15, 0, none⟩)) M (fun w M => ex_move _) ?_
  refine L_run 294 (.pointer (some ⟨B + 15, 0, none⟩)) M (fun w M => ex_nil _) ?_
  refine L_run 295 (.pointer (some ⟨B + 15, 1, none⟩)) M (fun w M => ex_field _ _ (fa60_1 (B + 15))) ?_
  refine L_run 296 (.pointer (some ⟨B + 12, 0, none⟩)) M (fun w M => ex_load _ _ (run_load1 M (j := 15) (i := 1) (FE.strg rfl) rfl under45 rfl)) ?_
  refine L_run 297 (.pointer (some ⟨B + 12, 0, none⟩)) M (fun w M => ex_move _) ?_
  refine L_run 298 (.bool false) M (fun w M => ex_bin _ _ _ (gdp _ _ _ _ _ _ w (.inr rfl)) (ne45 (some ⟨B + 12, 0, none⟩) w)) ?_
  refine L_run 299 (.bool false) M (fun w M => ex_pick false _) ?_
  refine L_nil (show cL _ _ _ _ _ from ?_)
  refine cL_if false rfl ?_
  refine cL_skip (show cT 31 _ _ _ from ?_)
  refine cT_step 31 (cL_seq (cL_region ?_))
  refine L_run 300 (.map (some (B + jo3 a3))) M (fun w M => ex_move _) ?_
  refine L_run 301 (.int .i64 2) M (fun w M => ex_len _ _ (fun ty => by rw [run_lenmap ty Yba.underlying25 (M.get (i := jo3 a3) hm), hsz]; rfl)) ?_
  refine L_run 302 (.int .i64 2) M (fun w M => ex_move _) ?_
  refine L_run 303 (.bool false) M (fun w M => ex_bin (.int .i64 2) (.int .i64 2) (.bool false) (gdi _ _ _ _ _ _ _ w) (by kernel_rfl)) ?_
  refine L_nil (show cL _ _ _ _ _ from ?_)
  refine cL_if false rfl ?_
  refine cL_skip (show cT 32 _ _ _ from ?_)
  refine cT_step 32 (cL_seq (cL_region ?_))
  refine L_run 304 (.map (some (B + jt3 a3))) M (fun w M => ex_move _) ?_
  refine L_run 305 (.int .i64 1) M (fun w M => ex_len _ _ (fun ty => run_lenmap ty Yba.underlying25 (M.get (i := jt3 a3) FE.theirs))) ?_
  refine L_run 306 (.bool false) M (fun w M => ex_bin (.int .i64 1) (.int .i64 1) (.bool false) (gdi _ _ _ _ _ _ _ w) (by kernel_rfl)) ?_
  refine L_run 307 (.bool false) M (fun w M => ex_move _) ?_
  refine L_run 308 (.map (some (B + jt3 a3))) M (fun w M => ex_move _) ?_
  refine L_run 309 (.string a1) M (fun w M => ex_move _) ?_
  refine L_run 310 (.pointer (some ⟨B + 14, 0, none⟩)) M (fun w M => ex_lookup _ _ _ (run_look Yba.underlying25 (M.get (i := jt3 a3) FE.theirs) (ck9 a1 _ _) (find_hit w Yba.underlying9 _ _ _ _ (same_str a1)) false)) ?_
  refine L_run 311 (.pointer (some ⟨B + 14, 0, none⟩)) M (fun w M => ex_move _) ?_
  refine L_run 312 (.bool false) M (fun w M => ex_bin _ _ _ (gdp _ _ _ _ _ _ w (.inr rfl)) (ne58 (some ⟨B + 14, 0, none⟩) w)) ?_
  refine L_run 313 (.bool false) M (fun w M => ex_pick false _) ?_
  refine L_run 314 (.bool false) M (fun w M => ex_move _) ?_
  refine L_run 315 (.pointer (some ⟨B + 14, 0, none⟩)) M (fun w M => ex_move _) ?_
  refine L_run 316 (.pointer (some ⟨B + 14, 0, none⟩)) M (fun w M => ex_nil _) ?_
  refine L_run 317 (.pointer (some ⟨B + 14, 0, none⟩)) M (fun w M => ex_field _ _ (fa60_0 (B + 14))) ?_
  refine L_run 318 (.pointer (some ⟨B + 12, 0, none⟩)) M (fun w M => ex_load _ _ (run_load1 M (j := 14) (i := 0) FE.keep rfl under45 rfl)) ?_
  refine L_run 319 (.pointer (some ⟨B + 12, 0, none⟩)) M (fun w M => ex_move _) ?_
  refine L_run 320 (.bool false) M (fun w M => ex_bin _ _ _ (gdp _ _ _ _ _ _ w (.inr rfl)) (ne45 (some ⟨B + 12, 0, none⟩) w)) ?_
  refine L_run 321 (.bool false) M (fun w M => ex_pick false _) ?_
  refine L_run 322 (.bool false) M (fun w M => ex_move _) ?_
  refine L_run 323 (.pointer (some ⟨B + 14, 0, none⟩)) M (fun w M => ex_move _) ?_
  refine L_run 324 (.pointer (some ⟨B + 14, 0, none⟩)) M (fun w M => ex_nil _) ?_
  refine L_run 325 (.pointer (some ⟨B + 14, 1, none⟩)) M (fun w M => ex_field _ _ (fa60_1 (B + 14))) ?_
  refine L_run 326 (.pointer none) M (fun w M => ex_load _ _ (run_load1 M (j := 14) (i := 1) FE.keep rfl under45 rfl)) ?_
  refine L_run 327 (.bool false) M (fun w M => ex_bin _ _ _ (gdp _ _ _ _ _ _ w (.inr rfl)) (ne45 none w)) ?_
  refine L_run 328 (.bool false) M (fun w M => ex_pick false _) ?_
  refine L_nil (show cL _ _ _ _ _ from ?_)
  refine cL_if false rfl ?_
  refine cL_skip (show cT 33 _ _ _ from ?_)
  rcases FE.clients with ⟨rfl, hcl⟩ | ⟨hr, c0, hcl⟩
  · refine cT_step 33 (cL_seq (cL_region ?_))
    refine L_run 329 (.int .u8 a6) M (fun w M => ex_move _) ?_
    refine L_run 330 (.int .u8 2) M (fun w M => ex_bin (.int .u8 a6) (.int .u8 3) (.int .u8 2) (gdi _ _ _ _ _ _ _ w) (rem8 a6 3 2 (by decide) h6 w)) ?_
    refine L_run 331 (.bool true) M (fun w M => ex_bin (.int .u8 2) (.int .u8 2) (.bool true) (gdi _ _ _ _ _ _ _ w) (by kernel_rfl)) ?_
    refine L_nil (show cL _ _ _ _ _ from ?_)
    refine cL_if true rfl ?_
    have hD := M.drews
    have hC := hD; clear hD
    refine cL_seq (cL_quiet ?_)
    refine q_run 332 (.pointer (some ⟨B + 8, 0, none⟩)) hC (fun w M => ex_move _) ?_
    refine q_run 333 (.pointer (some ⟨B + 8, 0, none⟩)) hC (fun w M => ex_nil _) ?_
    refine q_run 334 (.pointer (some ⟨B + 8, 12, none⟩)) hC (fun w M => ex_field _ _ (fa44_7 (B + 8))) ?_
    refine q_run 335 (.map (some (B + 0))) hC (fun w M => ex_load _ _ (run_load1 M (j := 8) (i := 12) hT T.clients Yba.underlying24 rfl)) ?_
    refine q_run 336 (.int .i64 1) hC (fun w M => ex_len _ _ (fun ty => run_lenmap ty Yba.underlying24 (M.get (i := 0) hcl))) ?_
    refine q_run 337 (.bool false) hC (fun w M => ex_bin (.int .i64 1) (.int .i64 1) (.bool false) (gdi _ _ _ _ _ _ _ w) (by kernel_rfl)) ?_
    refine q_run 338 (.bool false) hC (fun w M => ex_move _) ?_
    refine q_run 339 (.pointer (some ⟨B + 8, 0, none⟩)) hC (fun w M => ex_move _) ?_
    refine q_run 340 (.pointer (some ⟨B + 8, 0, none⟩)) hC (fun w M => ex_nil _) ?_
    refine q_run 341 (.pointer (some ⟨B + 8, 12, none⟩)) hC (fun w M => ex_field _ _ (fa44_7 (B + 8))) ?_
    refine q_run 342 (.map (some (B + 0))) hC (fun w M => ex_load _ _ (run_load1 M (j := 8) (i := 12) hT T.clients Yba.underlying24 rfl)) ?_
    refine q_run 343 (.pointer (some ⟨B + 10, 0, none⟩)) hC (fun w M => ex_move _) ?_
    refine q_run 344 (.pointer (some ⟨B + 10, 0, none⟩)) hC (fun w M => ex_nil _) ?_
    refine q_run 345 (.pointer (some ⟨B + 10, 0, none⟩)) hC (fun w M => ex_field _ _ (fa57_0 (B + 10))) ?_
    refine q_run 346 (.int .u64 a0) hC (fun w M => ex_load _ _ (run_load1 M (j := 10) (i := 0) hCC C.id Yba.underlying46 rfl)) ?_
    refine q_run 347 (.pointer (some ⟨B + 12, 0, none⟩)) hC (fun w M => ex_lookup _ _ _ (run_look Yba.underlying24 (M.get (i := 0) hcl) (ck46 a0 _ _) (find_hit w Yba.underlying46 _ _ _ _ (same_int a0)) false)) ?_
    refine q_run 348 (.pointer (some ⟨B + 12, 0, none⟩)) hC (fun w M => ex_move _) ?_
    refine q_run 349 (.bool false) hC (fun w M => ex_bin _ _ _ (gdp _ _ _ _ _ _ w (.inr rfl)) (ne45 (some ⟨B + 12, 0, none⟩) w)) ?_
    refine q_run 350 (.bool false) hC (fun w M => ex_pick false _) ?_
    refine q_done hC ?_; clear hC M; intro w M; show cL _ _ _ _ _
    refine cL_if false rfl ?_
    refine cL_skip (show cT 34 _ _ _ from ?_)
    refine cT_step 34 (cL_seq (cL_region ?_))
    refine L_run 357 (.pointer (some ⟨B + 10, 0, none⟩)) M (fun w M => ex_move _) ?_
    refine L_run 358 (.pointer (some ⟨B + 10, 0, none⟩)) M (fun w M => ex_nil _) ?_
    refine L_run 359 (.pointer (some ⟨B + 10, 18, none⟩)) M (fun w M => ex_field _ _ (fa57_9 (B + 10))) ?_
    refine L_run 360 (.map (some (B + 9))) M (fun w M => ex_load _ _ (run_load1 M (j := 10) (i := 18) hCC C.sessions Yba.underlying26 rfl)) ?_
    refine L_run 361 (.int .i64 0) M (fun w M => ex_len _ _ (fun ty => run_lenmap ty Yba.underlying26 (M.get (i := 9) h9))) ?_
    refine L_run 362 (.bool false) M (fun w M => ex_bin (.int .i64 0) (.int .i64 0) (.bool false) (gdi _ _ _ _ _ _ _ w) (by kernel_rfl)) ?_
    refine L_nil (show cL _ _ _ _ _ from ?_)
    refine cL_if false rfl ?_
    refine cL_skip (show cT 35 _ _ _ from ?_)
    exact cL_as [(0, .int .u64 a0), (1, .string a1), (2, .string a2), (3, .bool a3), (4, .int .u8 a4), (5, .bool a5), (6, .int .u8 a6), (7, .bool a7), (8, .int .u64 a8), (19, .pointer (some ⟨B + 8, 0, none⟩)), (20, .pointer (some ⟨B + 10, 0, none⟩)), (21, .pointer (some ⟨B + 12, 0, none⟩)), (22, .pointer (some ⟨B + 13, 0, none⟩)), (26, .pointer (some ⟨B + 14, 0, none⟩)), (27, .pointer (bif true then some ⟨B + 15, 0, none⟩ else none)), (28, .pointer (some ⟨B + nn true, 0, none⟩)), (29, .pointer (some ⟨B + (nn true + 1), 0, none⟩)), (30, .int .u64 a8), (31, .pointer (bif a7 then some ⟨B + (nn true + 3), 0, none⟩ else none)), (32, .pointer (bif a7 then some ⟨B + (nn true + 5), 0, none⟩ else none)), (24, .map (some (B + jo3 a3))), (25, .map (some (B + jt3 a3))), (33, .pointer pc1), (34, .pointer pu1), (35, .bool true)] (by repeat (first | exact trivial | refine And.intro rfl ?_)) (next _ _ M)
  · refine cT_step 33 (cL_seq (cL_region ?_))
    refine L_run 329 (.int .u8 a6) M (fun w M => ex_move _) ?_
    refine L_run 330 (.int .u8 r) M (fun w M => ex_bin (.int .u8 a6) (.int .u8 3) (.int .u8 r) (gdi _ _ _ _ _ _ _ w) (rem8 a6 3 r (by decide) h6 w)) ?_
    refine L_run 331 (.bool false) M (fun w M => ex_bin (.int .u8 r) (.int .u8 2) (.bool false) (gdi _ _ _ _ _ _ _ w) (eql8_ne hr w)) ?_
    refine L_nil (show cL _ _ _ _ _ from ?_)
    refine cL_if false rfl ?_
    refine cL_seq (cL_region ?_)
    refine L_run 351 (.pointer (some ⟨B + 8, 0, none⟩)) M (fun w M => ex_move _) ?_
    refine L_run 352 (.pointer (some ⟨B + 8, 0, none⟩)) M (fun w M => ex_nil _) ?_
    refine L_run 353 (.pointer (some ⟨B + 8, 12, none⟩)) M (fun w M => ex_field _ _ (fa44_7 (B + 8))) ?_
    refine L_run 354 (.map (some (B + 0))) M (fun w M => ex_load _ _ (run_load1 M (j := 8) (i := 12) hT T.clients Yba.underlying24 rfl)) ?_
    refine L_run 355 (.int .i64 0) M (fun w M => ex_len _ _ (fun ty => run_lenmap ty Yba.underlying24 (M.get (i := 0) hcl))) ?_
    refine L_run 356 (.bool false) M (fun w M => ex_bin (.int .i64 0) (.int .i64 0) (.bool false) (gdi _ _ _ _ _ _ _ w) (by kernel_rfl)) ?_
    refine L_nil (show cL _ _ _ _ _ from ?_)
    refine cL_if false rfl ?_
    refine cL_skip (show cT 34 _ _ _ from ?_)
    refine cT_step 34 (cL_seq (cL_region ?_))
    refine L_run 357 (.pointer (some ⟨B + 10, 0, none⟩)) M (fun w M => ex_move _) ?_
    refine L_run 358 (.pointer (some ⟨B + 10, 0, none⟩)) M (fun w M => ex_nil _) ?_
    refine L_run 359 (.pointer (some ⟨B + 10, 18, none⟩)) M (fun w M => ex_field _ _ (fa57_9 (B + 10))) ?_
    refine L_run 360 (.map (some (B + 9))) M (fun w M => ex_load _ _ (run_load1 M (j := 10) (i := 18) hCC C.sessions Yba.underlying26 rfl)) ?_
    refine L_run 361 (.int .i64 0) M (fun w M => ex_len _ _ (fun ty => run_lenmap ty Yba.underlying26 (M.get (i := 9) h9))) ?_
    refine L_run 362 (.bool false) M (fun w M => ex_bin (.int .i64 0) (.int .i64 0) (.bool false) (gdi _ _ _ _ _ _ _ w) (by kernel_rfl)) ?_
    refine L_nil (show cL _ _ _ _ _ from ?_)
    refine cL_if false rfl ?_
    refine cL_skip (show cT 35 _ _ _ from ?_)
    exact cL_as [(0, .int .u64 a0), (1, .string a1), (2, .string a2), (3, .bool a3), (4, .int .u8 a4), (5, .bool a5), (6, .int .u8 a6), (7, .bool a7), (8, .int .u64 a8), (19, .pointer (some ⟨B + 8, 0, none⟩)), (20, .pointer (some ⟨B + 10, 0, none⟩)), (21, .pointer (some ⟨B + 12, 0, none⟩)), (22, .pointer (some ⟨B + 13, 0, none⟩)), (26, .pointer (some ⟨B + 14, 0, none⟩)), (27, .pointer (bif true then some ⟨B + 15, 0, none⟩ else none)), (28, .pointer (some ⟨B + nn true, 0, none⟩)), (29, .pointer (some ⟨B + (nn true + 1), 0, none⟩)), (30, .int .u64 a8), (31, .pointer (bif a7 then some ⟨B + (nn true + 3), 0, none⟩ else none)), (32, .pointer (bif a7 then some ⟨B + (nn true + 5), 0, none⟩ else none)), (24, .map (some (B + jo3 a3))), (25, .map (some (B + jt3 a3))), (33, .pointer pc1), (34, .pointer pu1), (35, .bool true)] (by repeat (first | exact trivial | refine And.intro rfl ?_)) (next _ _ M)
end Go.Proofs.Ybulkdufc
