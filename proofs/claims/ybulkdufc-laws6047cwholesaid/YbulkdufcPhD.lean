/-
  The fourth part: 'destroy'; what is wanted behind it.
-/
import Derived.Test.YbulkdufcPhD0
namespace Go.Proofs.Ybulkdufc
open Go.RowKit Go.Split
set_option maxRecDepth 100000 in
theorem phD (a0 : Int) (a1 a2 : ByteArray) (a3 : Bool) (a4 : Int) (a5 : Bool) (a6 : Int) (a7 : Bool) (a8 : Int) (w0 w : World) (B : Nat) (R : Ending → World → Prop) (s : Nat → Value) (k r : Int) (st kept : Bool) (pc pu pc1 pu1 : Option Addr) (W : Way B k a5 pc pu pc1 pu1 kept) (L0 : List Obj) (M : Mem w0 w B L0) (FF : List Obj → Prop)
    (HD : Calls Yba.prog 5 #[.pointer (some ⟨B + 8, 0, none⟩), .pointer (some ⟨B + 10, 0, none⟩)] w fun e w2 => e = .returned (.tuple #[]) ∧ ∃ L, FinE L B a0 a1 a2 st kept (jo3 a3) (jt3 a3) pc1 pu1 r ∧ FF L ∧ Mem w0 w2 B L)
    (next : ∀ (L : List Obj) (s' : Nat → Value) (w' : World), FinE L B a0 a1 a2 st kept (jo3 a3) (jt3 a3) pc1 pu1 r → FF L → Mem w0 w' B L → cT 25 (bodyPost Yba.prog Yba.f3 R) (look [(0, .int .u64 a0), (1, .string a1), (2, .string a2), (3, .bool a3), (4, .int .u8 a4), (5, .bool a5), (6, .int .u8 a6), (7, .bool a7), (8, .int .u64 a8), (19, .pointer (some ⟨B + 8, 0, none⟩)), (20, .pointer (some ⟨B + 10, 0, none⟩)), (21, .pointer (some ⟨B + 12, 0, none⟩)), (22, .pointer (some ⟨B + 13, 0, none⟩)), (26, .pointer (some ⟨B + 14, 0, none⟩)), (27, .pointer (bif st then some ⟨B + 15, 0, none⟩ else none)), (28, .pointer (some ⟨B + nn st, 0, none⟩)), (29, .pointer (some ⟨B + (nn st + 1), 0, none⟩)), (30, .int .u64 a8), (31, .pointer (bif a7 then some ⟨B + (nn st + 3), 0, none⟩ else none)), (32, .pointer (bif a7 then some ⟨B + (nn st + 5), 0, none⟩ else none)), (24, .map (some (B + jo3 a3))), (25, .map (some (B + jt3 a3))), (33, .pointer pc1), (34, .pointer pu1), (35, .bool kept)] s') w') :
    cT 21 (bodyPost Yba.prog Yba.f3 R) (look [(0, .int .u64 a0), (1, .string a1), (2, .string a2), (3, .bool a3), (4, .int .u8 a4), (5, .bool a5), (6, .int .u8 a6), (7, .bool a7), (8, .int .u64 a8), (19, .pointer (some ⟨B + 8, 0, none⟩)), (20, .pointer (some ⟨B + 10, 0, none⟩)), (21, .pointer (some ⟨B + 12, 0, none⟩)), (22, .pointer (some ⟨B + 13, 0, none⟩)), (23, .int .i64 k), (24, .map (some (B + (bif a3 then 2 else 1)))), (25, .map (some (B + (bif a3 then 1 else 2)))), (26, .pointer (some ⟨B + 14, 0, none⟩)), (27, .pointer (bif st then some ⟨B + 15, 0, none⟩ else none)), (28, .pointer (some ⟨B + nn st, 0, none⟩)), (29, .pointer (some ⟨B + (nn st + 1), 0, none⟩)), (30, .int .u64 a8), (31, .pointer (bif a7 then some ⟨B + (nn st + 3), 0, none⟩ else none)), (32, .pointer (bif a7 then some ⟨B + (nn st + 5), 0, none⟩ else none))] s) w := by
  refine cT_step 21 (cL_region ?_)
  refine L_run 221 (.pointer (some ⟨B + 8, 0, none⟩)) M (fun w M => ex_move _) ?_
  refine L_run 222 (.pointer (some ⟨B + 10, 0, none⟩)) M (fun w M => ex_move _) ?_
  refine L_call 223 5 #[.pointer (some ⟨B + 8, 0, none⟩), .pointer (some ⟨B + 10, 0, none⟩)] (by kernel_rfl) ?_
  refine HD.mono ?_; clear M; rintro _ w ⟨rfl, L, FE, FS, M⟩; refine ⟨_, rfl, ?_⟩
  refine L_nil (show cT 22 _ _ _ from ?_)
  refine cT_step 22 (cL_region ?_)
  refine L_run 33 (.pointer none) M (fun w M => ex_move _) ?_
  refine L_run 34 (.pointer none) M (fun w M => ex_move _) ?_
  refine L_nil (show cT 23 _ _ _ from ?_)
  refine cT_step 23 (cL_region ?_)
  refine L_run 224 (.bool a5) M (fun w M => ex_move _) ?_
  refine L_run 35 (.bool a5) M (fun w M => ex_move _) ?_
  refine L_nil (show cT 24 _ _ _ from ?_)
  refine cT_step 24 (cL_seq (cL_region ?_))
  refine L_run 225 (.int .i64 k) M (fun w M => ex_move _) ?_
  refine L_nil (show cL _ _ _ _ _ from ?_)
  refine cL_block ?_
  rcases W with ⟨rfl, rfl, rfl, rfl, rfl, rfl⟩ | ⟨rfl, rfl, rfl, rfl, rfl, rfl⟩ | ⟨rfl, rfl, rfl, rfl, rfl, rfl⟩ | ⟨rfl, rfl, rfl, rfl, rfl, rfl⟩
  · refine cL_seq (cL_region ?_)
    refine L_run 228 (.bool true) M (fun w M => ex_bin (.int .i64 0) (.int .i64 0) (.bool true) (gdi _ _ _ _ _ _ _ w) (by kernel_rfl)) ?_
    refine L_run 227 (.bool true) M (fun w M => ex_move _) ?_
    refine L_nil (show cL _ _ _ _ _ from ?_)
    refine cL_if true rfl ?_
    refine cL_region ?_
    refine L_run 229 (.bool kept) M (fun w M => ex_move _) ?_
    refine L_run 230 (.pointer (some ⟨B + 12, 0, none⟩)) M (fun w M => ex_move _) ?_
    refine L_call 231 4 #[.bool kept, .pointer (some ⟨B + 12, 0, none⟩)] (by kernel_rfl) ?_
    refine (pick_any _ _ _).mono ?_; rintro _ _ ⟨rfl, rfl⟩; refine ⟨_, rfl, ?_⟩
    refine L_run 34 (.pointer (dd B kept)) M (fun w M => ex_move _) ?_
    refine L_nil (show cT 25 _ _ _ from ?_)
    exact cL_as [(0, .int .u64 a0), (1, .string a1), (2, .string a2), (3, .bool a3), (4, .int .u8 a4), (5, .bool kept), (6, .int .u8 a6), (7, .bool a7), (8, .int .u64 a8), (19, .pointer (some ⟨B + 8, 0, none⟩)), (20, .pointer (some ⟨B + 10, 0, none⟩)), (21, .pointer (some ⟨B + 12, 0, none⟩)), (22, .pointer (some ⟨B + 13, 0, none⟩)), (26, .pointer (some ⟨B + 14, 0, none⟩)), (27, .pointer (bif st then some ⟨B + 15, 0, none⟩ else none)), (28, .pointer (some ⟨B + nn st, 0, none⟩)), (29, .pointer (some ⟨B + (nn st + 1), 0, none⟩)), (30, .int .u64 a8), (31, .pointer (bif a7 then some ⟨B + (nn st + 3), 0, none⟩ else none)), (32, .pointer (bif a7 then some ⟨B + (nn st + 5), 0, none⟩ else none)), (24, .map (some (B + jo3 a3))), (25, .map (some (B + jt3 a3))), (33, .pointer none), (34, .pointer (dd B kept)), (35, .bool kept)] (by repeat (first | exact trivial | refine And.intro rfl ?_)) (next L _ _ FE FS M)
  · refine cL_seq (cL_region ?_)
    refine L_run 228 (.bool false) M (fun w M => ex_bin (.int .i64 1) (.int .i64 0) (.bool false) (gdi _ _ _ _ _ _ _ w) (by kernel_rfl)) ?_
    refine L_run 227 (.bool false) M (fun w M => ex_move _) ?_
    refine L_nil (show cL _ _ _ _ _ from ?_)
    refine cL_if false rfl ?_
    refine cL_seq (cL_region ?_)
    refine L_run 233 (.bool true) M (fun w M => ex_bin (.int .i64 1) (.int .i64 1) (.bool true) (gdi _ _ _ _ _ _ _ w) (by kernel_rfl)) ?_
    refine L_run 232 (.bool true) M (fun w M => ex_move _) ?_
    refine L_nil (show cL _ _ _ _ _ from ?_)
    refine cL_if true rfl ?_
    refine cL_region ?_
    refine L_run 234 (.bool kept) M (fun w M => ex_move _) ?_
    refine L_run 235 (.pointer (some ⟨B + 12, 0, none⟩)) M (fun w M => ex_move _) ?_
    refine L_call 236 4 #[.bool kept, .pointer (some ⟨B + 12, 0, none⟩)] (by kernel_rfl) ?_
    refine (pick_any _ _ _).mono ?_; rintro _ _ ⟨rfl, rfl⟩; refine ⟨_, rfl, ?_⟩
    refine L_run 33 (.pointer (dd B kept)) M (fun w M => ex_move _) ?_
    refine L_nil (show cT 25 _ _ _ from ?_)
    exact cL_as [(0, .int .u64 a0), (1, .string a1), (2, .string a2), (3, .bool a3), (4, .int .u8 a4), (5, .bool kept), (6, .int .u8 a6), (7, .bool a7), (8, .int .u64 a8), (19, .pointer (some ⟨B + 8, 0, none⟩)), (20, .pointer (some ⟨B + 10, 0, none⟩)), (21, .pointer (some ⟨B + 12, 0, none⟩)), (22, .pointer (some ⟨B + 13, 0, none⟩)), (26, .pointer (some ⟨B + 14, 0, none⟩)), (27, .pointer (bif st then some ⟨B + 15, 0, none⟩ else none)), (28, .pointer (some ⟨B + nn st, 0, none⟩)), (29, .pointer (some ⟨B + (nn st + 1), 0, none⟩)), (30, .int .u64 a8), (31, .pointer (bif a7 then some ⟨B + (nn st + 3), 0, none⟩ else none)), (32, .pointer (bif a7 then some ⟨B + (nn st + 5), 0, none⟩ else none)), (24, .map (some (B + jo3 a3))), (25, .map (some (B + jt3 a3))), (33, .pointer (dd B kept)), (34, .pointer none), (35, .bool kept)] (by repeat (first | exact trivial | refine And.intro rfl ?_)) (next L _ _ FE FS M)
  · refine cL_seq (cL_region ?_)
    refine L_run 228 (.bool false) M (fun w M => ex_bin (.int .i64 2) (.int .i64 0) (.bool false) (gdi _ _ _ _ _ _ _ w) (by kernel_rfl)) ?_
    refine L_run 227 (.bool false) M (fun w M => ex_move _) ?_
    refine L_nil (show cL _ _ _ _ _ from ?_)
    refine cL_if false rfl ?_
    refine cL_seq (cL_region ?_)
    refine L_run 233 (.bool false) M (fun w M => ex_bin (.int .i64 2) (.int .i64 1) (.bool false) (gdi _ _ _ _ _ _ _ w) (by kernel_rfl)) ?_
    refine L_run 232 (.bool false) M (fun w M => ex_move _) ?_
    refine L_nil (show cL _ _ _ _ _ from ?_)
    refine cL_if false rfl ?_
    refine cL_seq (cL_region ?_)
    refine L_run 238 (.bool true) M (fun w M => ex_bin (.int .i64 2) (.int .i64 2) (.bool true) (gdi _ _ _ _ _ _ _ w) (by kernel_rfl)) ?_
    refine L_run 237 (.bool true) M (fun w M => ex_move _) ?_
    refine L_nil (show cL _ _ _ _ _ from ?_)
    refine cL_if true rfl ?_
    refine cL_region ?_
    refine L_run 239 (.bool kept) M (fun w M => ex_move _) ?_
    refine L_run 240 (.pointer (some ⟨B + 12, 0, none⟩)) M (fun w M => ex_move _) ?_
    refine L_call 241 4 #[.bool kept, .pointer (some ⟨B + 12, 0, none⟩)] (by kernel_rfl) ?_
    refine (pick_any _ _ _).mono ?_; rintro _ _ ⟨rfl, rfl⟩; refine ⟨_, rfl, ?_⟩
    refine L_run 33 (.pointer (dd B kept)) M (fun w M => ex_move _) ?_
    refine L_nil (show cT 25 _ _ _ from ?_)
    exact cL_as [(0, .int .u64 a0), (1, .string a1), (2, .string a2), (3, .bool a3), (4, .int .u8 a4), (5, .bool kept), (6, .int .u8 a6), (7, .bool a7), (8, .int .u64 a8), (19, .pointer (some ⟨B + 8, 0, none⟩)), (20, .pointer (some ⟨B + 10, 0, none⟩)), (21, .pointer (some ⟨B + 12, 0, none⟩)), (22, .pointer (some ⟨B + 13, 0, none⟩)), (26, .pointer (some ⟨B + 14, 0, none⟩)), (27, .pointer (bif st then some ⟨B + 15, 0, none⟩ else none)), (28, .pointer (some ⟨B + nn st, 0, none⟩)), (29, .pointer (some ⟨B + (nn st + 1), 0, none⟩)), (30, .int .u64 a8), (31, .pointer (bif a7 then some ⟨B + (nn st + 3), 0, none⟩ else none)), (32, .pointer (bif a7 then some ⟨B + (nn st + 5), 0, none⟩ else none)), (24, .map (some (B + jo3 a3))), (25, .map (some (B + jt3 a3))), (33, .pointer (dd B kept)), (34, .pointer none), (35, .bool kept)] (by repeat (first | exact trivial | refine And.intro rfl ?_)) (next L _ _ FE FS M)
  · refine cL_seq (cL_region ?_)
    refine L_run 228 (.bool false) M (fun w M => ex_bin (.int .i64 3) (.int .i64 0) (.bool false) (gdi _ _ _ _ _ _ _ w) (by kernel_rfl)) ?_
    refine L_run 227 (.bool false) M (fun w M => ex_move _) ?_
    refine L_nil (show cL _ _ _ _ _ from ?_)
    refine cL_if false rfl ?_
    refine cL_seq (cL_region ?_)
    refine L_run 233 (.bool false) M (fun w M => ex_bin (.int .i64 3) (.int .i64 1) (.bool false) (gdi _ _ _ _ _ _ _ w) (by kernel_rfl)) ?_
    refine L_run 232 (.bool false) M (fun w M => ex_move _) ?_
    refine L_nil (show cL _ _ _ _ _ from ?_)
    refine cL_if false rfl ?_
    refine cL_seq (cL_region ?_)
    refine L_run 238 (.bool false) M (fun w M => ex_bin (.int .i64 3) (.int .i64 2) (.bool false) (gdi _ _ _ _ _ _ _ w) (by kernel_rfl)) ?_
    refine L_run 237 (.bool false) M (fun w M => ex_move _) ?_
    refine L_nil (show cL _ _ _ _ _ from ?_)
    refine cL_if false rfl ?_
    refine cL_seq (cL_region ?_)
    refine L_run 226 (.pointer (some ⟨B + 10, 0, none⟩)) M (fun w M => ex_move _) ?_
    refine L_run 34 (.pointer (some ⟨B + 10, 0, none⟩)) M (fun w M => ex_move _) ?_
    refine L_nil (show cL _ _ _ _ _ from ?_)
    refine cL_region ?_
    refine L_run 35 (.bool true) M (fun w M => ex_move _) ?_
    refine L_nil (show cT 25 _ _ _ from ?_)
    exact cL_as [(0, .int .u64 a0), (1, .string a1), (2, .string a2), (3, .bool a3), (4, .int .u8 a4), (5, .bool a5), (6, .int .u8 a6), (7, .bool a7), (8, .int .u64 a8), (19, .pointer (some ⟨B + 8, 0, none⟩)), (20, .pointer (some ⟨B + 10, 0, none⟩)), (21, .pointer (some ⟨B + 12, 0, none⟩)), (22, .pointer (some ⟨B + 13, 0, none⟩)), (26, .pointer (some ⟨B + 14, 0, none⟩)), (27, .pointer (bif st then some ⟨B + 15, 0, none⟩ else none)), (28, .pointer (some ⟨B + nn st, 0, none⟩)), (29, .pointer (some ⟨B + (nn st + 1), 0, none⟩)), (30, .int .u64 a8), (31, .pointer (bif a7 then some ⟨B + (nn st + 3), 0, none⟩ else none)), (32, .pointer (bif a7 then some ⟨B + (nn st + 5), 0, none⟩ else none)), (24, .map (some (B + jo3 a3))), (25, .map (some (B + jt3 a3))), (33, .pointer none), (34, .pointer (some ⟨B + 10, 0, none⟩)), (35, .bool true)] (by repeat (first | exact trivial | refine And.intro rfl ?_)) (next L _ _ FE FS M)
end Go.Proofs.Ybulkdufc
