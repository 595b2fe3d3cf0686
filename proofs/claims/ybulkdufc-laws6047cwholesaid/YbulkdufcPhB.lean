/-
  The second part: the owners' maps, the stranger, the clients' map.
-/
import Derived.Test.YbulkdufcEng2
namespace Go.Proofs.Ybulkdufc
open Go.RowKit Go.Split
theorem neq9_eq {a b : ByteArray} (h : a = b) (w : World) : (binOp .neq 9 (.string a) (.string b)).run Yba.prog w = .ok (.bool false) w := by
  rw [h]; exact neq9_same b w
set_option maxRecDepth 100000 in
theorem phB (a0 : Int) (a1 a2 : ByteArray) (a3 : Bool) (a4 : Int) (a5 : Bool) (a6 : Int) (a7 : Bool) (a8 : Int) (w6 : (Lit.int .u8 a6).wf = true) (w0 w : World) (B : Nat) (R : Ending → World → Prop) (s : Nat → Value) (CT CC CD : Array Value) (k : Int) (pc pu : Option Addr) (T : Tab CT B) (C : Cli CC a0 a1 a3 (B + 9)) (M : Mem w0 w B (LA CT CC CD pc pu))
    (next : ∀ (st : Bool) (r : Int) (CO CO1 : Obj) (s' : Nat → Value) (w' : World), a6.tmod 3 = r → (st = true → a2 ≠ a1) → CWay B a0 r CO CO1 → Mem w0 w' B (LB B CO (X1 B a1 a2 a3 st) (X2 B a1 a2 a3 st) em em em em CT CC CD pc pu (STl B st)) →
      cT 15 (bodyPost Yba.prog Yba.f3 R) (look [(0, .int .u64 a0), (1, .string a1), (2, .string a2), (3, .bool a3), (4, .int .u8 a4), (5, .bool a5), (6, .int .u8 a6), (7, .bool a7), (8, .int .u64 a8), (19, .pointer (some ⟨B + 8, 0, none⟩)), (20, .pointer (some ⟨B + 10, 0, none⟩)), (21, .pointer (some ⟨B + 12, 0, none⟩)), (22, .pointer (some ⟨B + 13, 0, none⟩)), (23, .int .i64 k), (24, .map (some (B + (bif a3 then 2 else 1)))), (25, .map (some (B + (bif a3 then 1 else 2)))), (26, .pointer (some ⟨B + 14, 0, none⟩)), (27, .pointer (bif st then some ⟨B + 15, 0, none⟩ else none))] s') w') :
    cT 7 (bodyPost Yba.prog Yba.f3 R) (look [(0, .int .u64 a0), (1, .string a1), (2, .string a2), (3, .bool a3), (4, .int .u8 a4), (5, .bool a5), (6, .int .u8 a6), (7, .bool a7), (8, .int .u64 a8), (19, .pointer (some ⟨B + 8, 0, none⟩)), (20, .pointer (some ⟨B + 10, 0, none⟩)), (21, .pointer (some ⟨B + 12, 0, none⟩)), (22, .pointer (some ⟨B + 13, 0, none⟩)), (23, .int .i64 k)] s) w := by
  have hC := M.drews
  refine cT_step 7 (cL_quiet ?_)
  refine q_run 109 (.pointer (some ⟨B + 8, 0, none⟩)) hC (fun w M => ex_move _) ?_
  refine q_run 110 (.pointer (some ⟨B + 8, 0, none⟩)) hC (fun w M => ex_nil _) ?_
  refine q_run 111 (.pointer (some ⟨B + 8, 13, none⟩)) hC (fun w M => ex_field _ _ (fa44_8 (B + 8))) ?_
  refine q_run 112 (.map (some (B + 1))) hC (fun w M => ex_load _ _ (run_load1 M (j := 8) (i := 13) rfl T.owners Yba.underlying25 rfl)) ?_
  refine q_run 113 (.pointer (some ⟨B + 8, 0, none⟩)) hC (fun w M => ex_move _) ?_
  refine q_run 114 (.pointer (some ⟨B + 8, 0, none⟩)) hC (fun w M => ex_nil _) ?_
  refine q_run 115 (.pointer (some ⟨B + 8, 14, none⟩)) hC (fun w M => ex_field _ _ (fa44_9 (B + 8))) ?_
  refine q_run 116 (.map (some (B + 2))) hC (fun w M => ex_load _ _ (run_load1 M (j := 8) (i := 14) rfl T.owners40 Yba.underlying25 rfl)) ?_
  refine q_run 24 (.map (some (B + 1))) hC (fun w M => ex_move _) ?_
  refine q_run 25 (.map (some (B + 2))) hC (fun w M => ex_move _) ?_
  refine q_done hC ?_; clear hC M; intro w M; show cT 8 _ _ _
  refine cT_step 8 (cL_seq (cL_region ?_))
  refine L_run 117 (.bool a3) M (fun w M => ex_move _) ?_
  refine L_nil (show cL _ _ _ _ _ from ?_)
  cases a3 with
  | false =>
    refine cL_if false rfl ?_
    refine cL_skip (show cT 9 _ _ _ from ?_)
    refine cT_step 9 (cL_region ?_)
    refine L_run 126 (.map (some (B + 1))) M (fun w M => ex_move _) ?_
    refine L_run 127 (.string a1) M (fun w M => ex_move _) ?_
    refine L_run 128 (.pointer (some ⟨B + 13, 0, none⟩)) M (fun w M => ex_move _) ?_
    refine L_update 1 0 #[] (.string a1) (.pointer (some ⟨B + 13, 0, none⟩)) M rfl Yba.underlying25 (fun w => ck9 a1 false w) (fun w => find_nil w Yba.underlying9 _) ?_; clear M; intro w M
    have M : Mem w0 w B [em, .map #[ent (.string a1) (.pointer (some ⟨B + 13, 0, none⟩)) 0] 1, em, em, em, em, em, em, .cells CT 44 (0, 0), em, .cells CC 57 (0, 0), em, .cells CD 57 (0, 0), .cells #[.pointer pc, .pointer pu] 60 (0, 0)] := M
    refine L_nil (show cT 10 _ _ _ from ?_)
    refine cT_step 10 (cL_region ?_)
    refine L_run 129 (.pointer (some ⟨B + 12, 0, none⟩)) M (fun w M => ex_move _) ?_
    refine L_build 130 _ #[.pointer (some ⟨B + 12, 0, none⟩), .pointer none] (built60_1 _) ?_
    refine L_box 131 14 #[.pointer (some ⟨B + 12, 0, none⟩), .pointer none] M rfl ?_; clear M; intro w M
    refine L_run 26 (.pointer (some ⟨B + 14, 0, none⟩)) M (fun w M => ex_move _) ?_
    refine L_nil (show cT 11 _ _ _ from ?_)
    have M : Mem w0 w B [em, .map #[ent (.string a1) (.pointer (some ⟨B + 13, 0, none⟩)) 0] 1, em, em, em, em, em, em, .cells CT 44 (0, 0), em, .cells CC 57 (0, 0), em, .cells CD 57 (0, 0), .cells #[.pointer pc, .pointer pu] 60 (0, 0), .cells #[.pointer (some ⟨B + 12, 0, none⟩), .pointer none] 60 (0, 0)] := M
    refine cT_step 11 (cL_region ?_)
    refine L_run 132 (.map (some (B + 2))) M (fun w M => ex_move _) ?_
    refine L_run 133 (.string a1) M (fun w M => ex_move _) ?_
    refine L_run 134 (.pointer (some ⟨B + 14, 0, none⟩)) M (fun w M => ex_move _) ?_
    refine L_update 2 0 #[] (.string a1) (.pointer (some ⟨B + 14, 0, none⟩)) M rfl Yba.underlying25 (fun w => ck9 a1 false w) (fun w => find_nil w Yba.underlying9 _) ?_; clear M; intro w M
    have M : Mem w0 w B [em, .map #[ent (.string a1) (.pointer (some ⟨B + 13, 0, none⟩)) 0] 1, .map #[ent (.string a1) (.pointer (some ⟨B + 14, 0, none⟩)) 0] 1, em, em, em, em, em, .cells CT 44 (0, 0), em, .cells CC 57 (0, 0), em, .cells CD 57 (0, 0), .cells #[.pointer pc, .pointer pu] 60 (0, 0), .cells #[.pointer (some ⟨B + 12, 0, none⟩), .pointer none] 60 (0, 0)] := M
    refine L_nil (show cT 12 _ _ _ from ?_)
    refine cT_step 12 (cL_region ?_)
    refine L_run 27 (.pointer none) M (fun w M => ex_move _) ?_
    refine L_nil (show cT 13 _ _ _ from ?_)
    by_cases h2 : a2 = a1
    · refine cT_step 13 (cL_seq (cL_region ?_))
      refine L_run 135 (.string a2) M (fun w M => ex_move _) ?_
      refine L_run 136 (.string a1) M (fun w M => ex_move _) ?_
      refine L_run 137 (.bool false) M (fun w M => ex_bin (.string a2) (.string a1) (.bool false) (gds _ _ _ _ _ _ w) (neq9_eq h2 w)) ?_
      refine L_nil (show cL _ _ _ _ _ from ?_)
      refine cL_if false rfl ?_
      refine cL_skip (show cT 14 _ _ _ from ?_)
      rcases tmod3 a6 w6 with h6 | h6 | h6
      · refine cT_step 14 (cL_seq (cL_region ?_))
        refine L_run 144 (.int .u8 a6) M (fun w M => ex_move _) ?_
        refine L_run 145 (.int .u8 0) M (fun w M => ex_bin (.int .u8 a6) (.int .u8 3) (.int .u8 0) (gdi _ _ _ _ _ _ _ w) (rem8 a6 3 0 (by decide) h6 w)) ?_
        refine L_nil (show cL _ _ _ _ _ from ?_)
        refine cL_block ?_
        refine cL_seq (cL_region ?_)
        refine L_run 147 (.bool false) M (fun w M => ex_bin (.int .u8 0) (.int .u8 1) (.bool false) (gdi _ _ _ _ _ _ _ w) (by kernel_rfl)) ?_
        refine L_run 146 (.bool false) M (fun w M => ex_move _) ?_
        refine L_nil (show cL _ _ _ _ _ from ?_)
        refine cL_if false rfl ?_
        refine cL_seq (cL_region ?_)
        refine L_run 158 (.bool false) M (fun w M => ex_bin (.int .u8 0) (.int .u8 2) (.bool false) (gdi _ _ _ _ _ _ _ w) (by kernel_rfl)) ?_
        refine L_run 157 (.bool false) M (fun w M => ex_move _) ?_
        refine L_nil (show cL _ _ _ _ _ from ?_)
        refine cL_if false rfl ?_
        refine cL_skip (show cT 15 _ _ _ from ?_)
        exact cL_as [(0, .int .u64 a0), (1, .string a1), (2, .string a2), (3, .bool false), (4, .int .u8 a4), (5, .bool a5), (6, .int .u8 a6), (7, .bool a7), (8, .int .u64 a8), (19, .pointer (some ⟨B + 8, 0, none⟩)), (20, .pointer (some ⟨B + 10, 0, none⟩)), (21, .pointer (some ⟨B + 12, 0, none⟩)), (22, .pointer (some ⟨B + 13, 0, none⟩)), (23, .int .i64 k), (24, .map (some (B + 1))), (25, .map (some (B + 2))), (26, .pointer (some ⟨B + 14, 0, none⟩)), (27, .pointer none)] (by repeat (first | exact trivial | refine And.intro rfl ?_)) (next false 0 _ _ _ _ h6 (by intro h; exact Bool.noConfusion h) (.inl ⟨rfl, rfl, rfl⟩) M)
      · refine cT_step 14 (cL_seq (cL_region ?_))
        refine L_run 144 (.int .u8 a6) M (fun w M => ex_move _) ?_
        refine L_run 145 (.int .u8 1) M (fun w M => ex_bin (.int .u8 a6) (.int .u8 3) (.int .u8 1) (gdi _ _ _ _ _ _ _ w) (rem8 a6 3 1 (by decide) h6 w)) ?_
        refine L_nil (show cL _ _ _ _ _ from ?_)
        refine cL_block ?_
        refine cL_seq (cL_region ?_)
        refine L_run 147 (.bool true) M (fun w M => ex_bin (.int .u8 1) (.int .u8 1) (.bool true) (gdi _ _ _ _ _ _ _ w) (by kernel_rfl)) ?_
        refine L_run 146 (.bool true) M (fun w M => ex_move _) ?_
        refine L_nil (show cL _ _ _ _ _ from ?_)
        refine cL_if true rfl ?_
        have hC := M.drew1
        refine cL_cut [0, 1, 2, 3, 4, 5, 6, 7, 8] 9 [] ?_
        refine q_run 148 (.pointer (some ⟨B + 8, 0, none⟩)) hC (fun w M => ex_move _) ?_
        refine q_run 149 (.pointer (some ⟨B + 8, 0, none⟩)) hC (fun w M => ex_nil _) ?_
        refine q_run 150 (.pointer (some ⟨B + 8, 12, none⟩)) hC (fun w M => ex_field _ _ (fa44_7 (B + 8))) ?_
        refine q_run 151 (.map (some (B + 0))) hC (fun w M => ex_load _ _ (run_load1 M (j := 8) (i := 12) rfl T.clients Yba.underlying24 rfl)) ?_
        refine q_run 152 (.pointer (some ⟨B + 10, 0, none⟩)) hC (fun w M => ex_move _) ?_
        refine q_run 153 (.pointer (some ⟨B + 10, 0, none⟩)) hC (fun w M => ex_nil _) ?_
        refine q_run 154 (.pointer (some ⟨B + 10, 0, none⟩)) hC (fun w M => ex_field _ _ (fa57_0 (B + 10))) ?_
        refine q_run 155 (.int .u64 a0) hC (fun w M => ex_load _ _ (run_load1 M (j := 10) (i := 0) rfl C.id Yba.underlying46 rfl)) ?_
        refine q_run 156 (.pointer (some ⟨B + 10, 0, none⟩)) hC (fun w M => ex_move _) ?_
        refine q_then ?_
        clear hC; replace M := M.drew
        refine L_update 0 0 #[] (.int .u64 a0) (.pointer (some ⟨B + 10, 0, none⟩)) M rfl Yba.underlying24 (fun w => ck46 a0 false w) (fun w => find_nil w Yba.underlying46 _) ?_; clear M; intro w M
        have M : Mem w0 w B [.map #[ent (.int .u64 a0) (.pointer (some ⟨B + 10, 0, none⟩)) 0] 1, .map #[ent (.string a1) (.pointer (some ⟨B + 13, 0, none⟩)) 0] 1, .map #[ent (.string a1) (.pointer (some ⟨B + 14, 0, none⟩)) 0] 1, em, em, em, em, em, .cells CT 44 (0, 0), em, .cells CC 57 (0, 0), em, .cells CD 57 (0, 0), .cells #[.pointer pc, .pointer pu] 60 (0, 0), .cells #[.pointer (some ⟨B + 12, 0, none⟩), .pointer none] 60 (0, 0)] := M
        refine L_nil (show cT 15 _ _ _ from ?_)
        exact cL_as [(0, .int .u64 a0), (1, .string a1), (2, .string a2), (3, .bool false), (4, .int .u8 a4), (5, .bool a5), (6, .int .u8 a6), (7, .bool a7), (8, .int .u64 a8), (19, .pointer (some ⟨B + 8, 0, none⟩)), (20, .pointer (some ⟨B + 10, 0, none⟩)), (21, .pointer (some ⟨B + 12, 0, none⟩)), (22, .pointer (some ⟨B + 13, 0, none⟩)), (23, .int .i64 k), (24, .map (some (B + 1))), (25, .map (some (B + 2))), (26, .pointer (some ⟨B + 14, 0, none⟩)), (27, .pointer none)] (by repeat (first | exact trivial | refine And.intro rfl ?_)) (next false 1 _ _ _ _ h6 (by intro h; exact Bool.noConfusion h) (.inr (.inl ⟨rfl, rfl, rfl⟩)) M)
      · refine cT_step 14 (cL_seq (cL_region ?_))
        refine L_run 144 (.int .u8 a6) M (fun w M => ex_move _) ?_
        refine L_run 145 (.int .u8 2) M (fun w M => ex_bin (.int .u8 a6) (.int .u8 3) (.int .u8 2) (gdi _ _ _ _ _ _ _ w) (rem8 a6 3 2 (by decide) h6 w)) ?_
        refine L_nil (show cL _ _ _ _ _ from ?_)
        refine cL_block ?_
        refine cL_seq (cL_region ?_)
        refine L_run 147 (.bool false) M (fun w M => ex_bin (.int .u8 2) (.int .u8 1) (.bool false) (gdi _ _ _ _ _ _ _ w) (by kernel_rfl)) ?_
        refine L_run 146 (.bool false) M (fun w M => ex_move _) ?_
        refine L_nil (show cL _ _ _ _ _ from ?_)
        refine cL_if false rfl ?_
        refine cL_seq (cL_region ?_)
        refine L_run 158 (.bool true) M (fun w M => ex_bin (.int .u8 2) (.int .u8 2) (.bool true) (gdi _ _ _ _ _ _ _ w) (by kernel_rfl)) ?_
        refine L_run 157 (.bool true) M (fun w M => ex_move _) ?_
        refine L_nil (show cL _ _ _ _ _ from ?_)
        refine cL_if true rfl ?_
        have hC := M.drew1
        refine cL_cut [0, 1, 2, 3, 4, 5, 6, 7, 8] 9 [] ?_
        refine q_run 159 (.pointer (some ⟨B + 8, 0, none⟩)) hC (fun w M => ex_move _) ?_
        refine q_run 160 (.pointer (some ⟨B + 8, 0, none⟩)) hC (fun w M => ex_nil _) ?_
        refine q_run 161 (.pointer (some ⟨B + 8, 12, none⟩)) hC (fun w M => ex_field _ _ (fa44_7 (B + 8))) ?_
        refine q_run 162 (.map (some (B + 0))) hC (fun w M => ex_load _ _ (run_load1 M (j := 8) (i := 12) rfl T.clients Yba.underlying24 rfl)) ?_
        refine q_run 163 (.pointer (some ⟨B + 10, 0, none⟩)) hC (fun w M => ex_move _) ?_
        refine q_run 164 (.pointer (some ⟨B + 10, 0, none⟩)) hC (fun w M => ex_nil _) ?_
        refine q_run 165 (.pointer (some ⟨B + 10, 0, none⟩)) hC (fun w M => ex_field _ _ (fa57_0 (B + 10))) ?_
        refine q_run 166 (.int .u64 a0) hC (fun w M => ex_load _ _ (run_load1 M (j := 10) (i := 0) rfl C.id Yba.underlying46 rfl)) ?_
        refine q_run 167 (.pointer (some ⟨B + 12, 0, none⟩)) hC (fun w M => ex_move _) ?_
        refine q_then ?_
        clear hC; replace M := M.drew
        refine L_update 0 0 #[] (.int .u64 a0) (.pointer (some ⟨B + 12, 0, none⟩)) M rfl Yba.underlying24 (fun w => ck46 a0 false w) (fun w => find_nil w Yba.underlying46 _) ?_; clear M; intro w M
        have M : Mem w0 w B [.map #[ent (.int .u64 a0) (.pointer (some ⟨B + 12, 0, none⟩)) 0] 1, .map #[ent (.string a1) (.pointer (some ⟨B + 13, 0, none⟩)) 0] 1, .map #[ent (.string a1) (.pointer (some ⟨B + 14, 0, none⟩)) 0] 1, em, em, em, em, em, .cells CT 44 (0, 0), em, .cells CC 57 (0, 0), em, .cells CD 57 (0, 0), .cells #[.pointer pc, .pointer pu] 60 (0, 0), .cells #[.pointer (some ⟨B + 12, 0, none⟩), .pointer none] 60 (0, 0)] := M
        refine L_nil (show cT 15 _ _ _ from ?_)
        exact cL_as [(0, .int .u64 a0), (1, .string a1), (2, .string a2), (3, .bool false), (4, .int .u8 a4), (5, .bool a5), (6, .int .u8 a6), (7, .bool a7), (8, .int .u64 a8), (19, .pointer (some ⟨B + 8, 0, none⟩)), (20, .pointer (some ⟨B + 10, 0, none⟩)), (21, .pointer (some ⟨B + 12, 0, none⟩)), (22, .pointer (some ⟨B + 13, 0, none⟩)), (23, .int .i64 k), (24, .map (some (B + 1))), (25, .map (some (B + 2))), (26, .pointer (some ⟨B + 14, 0, none⟩)), (27, .pointer none)] (by repeat (first | exact trivial | refine And.intro rfl ?_)) (next false 2 _ _ _ _ h6 (by intro h; exact Bool.noConfusion h) (.inr (.inr ⟨rfl, rfl, rfl⟩)) M)
    · refine cT_step 13 (cL_seq (cL_region ?_))
      refine L_run 135 (.string a2) M (fun w M => ex_move _) ?_
      refine L_run 136 (.string a1) M (fun w M => ex_move _) ?_
      refine L_run 137 (.bool true) M (fun w M => ex_bin (.string a2) (.string a1) (.bool true) (gds _ _ _ _ _ _ w) (neq9_diff h2 w)) ?_
      refine L_nil (show cL _ _ _ _ _ from ?_)
      refine cL_if true rfl ?_
      refine cL_seq (cL_region ?_)
      refine L_run 138 (.pointer (some ⟨B + 12, 0, none⟩)) M (fun w M => ex_move _) ?_
      refine L_build 139 _ #[.pointer none, .pointer (some ⟨B + 12, 0, none⟩)] (built60_2 _) ?_
      refine L_box 140 15 #[.pointer none, .pointer (some ⟨B + 12, 0, none⟩)] M rfl ?_; clear M; intro w M
      refine L_run 27 (.pointer (some ⟨B + 15, 0, none⟩)) M (fun w M => ex_move _) ?_
      have M : Mem w0 w B [em, .map #[ent (.string a1) (.pointer (some ⟨B + 13, 0, none⟩)) 0] 1, .map #[ent (.string a1) (.pointer (some ⟨B + 14, 0, none⟩)) 0] 1, em, em, em, em, em, .cells CT 44 (0, 0), em, .cells CC 57 (0, 0), em, .cells CD 57 (0, 0), .cells #[.pointer pc, .pointer pu] 60 (0, 0), .cells #[.pointer (some ⟨B + 12, 0, none⟩), .pointer none] 60 (0, 0), .cells #[.pointer none, .pointer (some ⟨B + 12, 0, none⟩)] 60 (0, 0)] := M
      refine L_nil (show cL _ _ _ _ _ from ?_)
      refine cL_region ?_
      refine L_run 141 (.map (some (B + 1))) M (fun w M => ex_move _) ?_
      refine L_run 142 (.string a2) M (fun w M => ex_move _) ?_
      refine L_run 143 (.pointer (some ⟨B + 15, 0, none⟩)) M (fun w M => ex_move _) ?_
      refine L_update 1 1 #[ent (.string a1) (.pointer (some ⟨B + 13, 0, none⟩)) 0] (.string a2) (.pointer (some ⟨B + 15, 0, none⟩)) M rfl Yba.underlying25 (fun w => ck9 a2 false w) (fun w => find_miss w Yba.underlying9 _ _ _ _ (diff_str h2)) ?_; clear M; intro w M
      have M : Mem w0 w B [em, .map #[ent (.string a1) (.pointer (some ⟨B + 13, 0, none⟩)) 0, ent (.string a2) (.pointer (some ⟨B + 15, 0, none⟩)) 1] 2, .map #[ent (.string a1) (.pointer (some ⟨B + 14, 0, none⟩)) 0] 1, em, em, em, em, em, .cells CT 44 (0, 0), em, .cells CC 57 (0, 0), em, .cells CD 57 (0, 0), .cells #[.pointer pc, .pointer pu] 60 (0, 0), .cells #[.pointer (some ⟨B + 12, 0, none⟩), .pointer none] 60 (0, 0), .cells #[.pointer none, .pointer (some ⟨B + 12, 0, none⟩)] 60 (0, 0)] := M
      refine L_nil (show cT 14 _ _ _ from ?_)
      rcases tmod3 a6 w6 with h6 | h6 | h6
      · refine cT_step 14 (cL_seq (cL_region ?_))
        refine L_run 144 (.int .u8 a6) M (fun w M => ex_move _) ?_
        refine L_run 145 (.int .u8 0) M (fun w M => ex_bin (.int .u8 a6) (.int .u8 3) (.int .u8 0) (gdi _ _ _ _ _ _ _ w) (rem8 a6 3 0 (by decide) h6 w)) ?_
        refine L_nil (show cL _ _ _ _ _ from ?_)
        refine cL_block ?_
        refine cL_seq (cL_region ?_)
        refine L_run 147 (.bool false) M (fun w M => ex_bin (.int .u8 0) (.int .u8 1) (.bool false) (gdi _ _ _ _ _ _ _ w) (by kernel_rfl)) ?_
        refine L_run 146 (.bool false) M (fun w M => ex_move _) ?_
        refine L_nil (show cL _ _ _ _ _ from ?_)
        refine cL_if false rfl ?_
        refine cL_seq (cL_region ?_)
        refine L_run 158 (.bool false) M (fun w M => ex_bin (.int .u8 0) (.int .u8 2) (.bool false) (gdi _ _ _ _ _ _ _ w) (by kernel_rfl)) ?_
        refine L_run 157 (.bool false) M (fun w M => ex_move _) ?_
        refine L_nil (show cL _ _ _ _ _ from ?_)
        refine cL_if false rfl ?_
        refine cL_skip (show cT 15 _ _ _ from ?_)
        exact cL_as [(0, .int .u64 a0), (1, .string a1), (2, .string a2), (3, .bool false), (4, .int .u8 a4), (5, .bool a5), (6, .int .u8 a6), (7, .bool a7), (8, .int .u64 a8), (19, .pointer (some ⟨B + 8, 0, none⟩)), (20, .pointer (some ⟨B + 10, 0, none⟩)), (21, .pointer (some ⟨B + 12, 0, none⟩)), (22, .pointer (some ⟨B + 13, 0, none⟩)), (23, .int .i64 k), (24, .map (some (B + 1))), (25, .map (some (B + 2))), (26, .pointer (some ⟨B + 14, 0, none⟩)), (27, .pointer (some ⟨B + 15, 0, none⟩))] (by repeat (first | exact trivial | refine And.intro rfl ?_)) (next true 0 _ _ _ _ h6 (fun _ => h2) (.inl ⟨rfl, rfl, rfl⟩) M)
      · refine cT_step 14 (cL_seq (cL_region ?_))
        refine L_run 144 (.int .u8 a6) M (fun w M => ex_move _) ?_
        refine L_run 145 (.int .u8 1) M (fun w M => ex_bin (.int .u8 a6) (.int .u8 3) (.int .u8 1) (gdi _ _ _ _ _ _ _ w) (rem8 a6 3 1 (by decide) h6 w)) ?_
        refine L_nil (show cL _ _ _ _ _ from ?_)
        refine cL_block ?_
        refine cL_seq (cL_region ?_)
        refine L_run 147 (.bool true) M (fun w M => ex_bin (.int .u8 1) (.int .u8 1) (.bool true) (gdi _ _ _ _ _ _ _ w) (by kernel_rfl)) ?_
        refine L_run 146 (.bool true) M (fun w M => ex_move _) ?_
        refine L_nil (show cL _ _ _ _ _ from ?_)
        refine cL_if true rfl ?_
        have hC := M.drew1
        refine cL_cut [0, 1, 2, 3, 4, 5, 6, 7, 8] 9 [] ?_
        refine q_run 148 (.pointer (some ⟨B + 8, 0, none⟩)) hC (fun w M => ex_move _) ?_
        refine q_run 149 (.pointer (some ⟨B + 8, 0, none⟩)) hC (fun w M => ex_nil _) ?_
        refine q_run 150 (.pointer (some ⟨B + 8, 12, none⟩)) hC (fun w M => ex_field _ _ (fa44_7 (B + 8))) ?_
        refine q_run 151 (.map (some (B + 0))) hC (fun w M => ex_load _ _ (run_load1 M (j := 8) (i := 12) rfl T.clients Yba.underlying24 rfl)) ?_
        refine q_run 152 (.pointer (some ⟨B + 10, 0, none⟩)) hC (fun w M => ex_move _) ?_
        refine q_run 153 (.pointer (some ⟨B + 10, 0, none⟩)) hC (fun w M => ex_nil _) ?_
        refine q_run 154 (.pointer (some ⟨B + 10, 0, none⟩)) hC (fun w M => ex_field _ _ (fa57_0 (B + 10))) ?_
        refine q_run 155 (.int .u64 a0) hC (fun w M => ex_load _ _ (run_load1 M (j := 10) (i := 0) rfl C.id Yba.underlying46 rfl)) ?_
        refine q_run 156 (.pointer (some ⟨B + 10, 0, none⟩)) hC (fun w M => ex_move _) ?_
        refine q_then ?_
        clear hC; replace M := M.drew
        refine L_update 0 0 #[] (.int .u64 a0) (.pointer (some ⟨B + 10, 0, none⟩)) M rfl Yba.underlying24 (fun w => ck46 a0 false w) (fun w => find_nil w Yba.underlying46 _) ?_; clear M; intro w M
        have M : Mem w0 w B [.map #[ent (.int .u64 a0) (.pointer (some ⟨B + 10, 0, none⟩)) 0] 1, .map #[ent (.string a1) (.pointer (some ⟨B + 13, 0, none⟩)) 0, ent (.string a2) (.pointer (some ⟨B + 15, 0, none⟩)) 1] 2, .map #[ent (.string a1) (.pointer (some ⟨B + 14, 0, none⟩)) 0] 1, em, em, em, em, em, .cells CT 44 (0, 0), em, .cells CC 57 (0, 0), em, .cells CD 57 (0, 0), .cells #[.pointer pc, .pointer pu] 60 (0, 0), .cells #[.pointer (some ⟨B + 12, 0, none⟩), .pointer none] 60 (0, 0), .cells #[.pointer none, .pointer (some ⟨B + 12, 0, none⟩)] 60 (0, 0)] := M
        refine L_nil (show cT 15 _ _ _ from ?_)
        exact cL_as [(0, .int .u64 a0), (1, .string a1), (2, .string a2), (3, .bool false), (4, .int .u8 a4), (5, .bool a5), (6, .int .u8 a6), (7, .bool a7), (8, .int .u64 a8), (19, .pointer (some ⟨B + 8, 0, none⟩)), (20, .pointer (some ⟨B + 10, 0, none⟩)), (21, .pointer (some ⟨B + 12, 0, none⟩)), (22, .pointer (some ⟨B + 13, 0, none⟩)), (23, .int .i64 k), (24, .map (some (B + 1))), (25, .map (some (B + 2))), (26, .pointer (some ⟨B + 14, 0, none⟩)), (27, .pointer (some ⟨B + 15, 0, none⟩))] (by repeat (first | exact trivial | refine And.intro rfl ?_)) (next true 1 _ _ _ _ h6 (fun _ => h2) (.inr (.inl ⟨rfl, rfl, rfl⟩)) M)
      · refine cT_step 14 (cL_seq (cL_region ?_))
        refine L_run 144 (.int .u8 a6) M (fun w M => ex_move _) ?_
        refine L_run 145 (.int .u8 2) M (fun w M => ex_bin (.int .u8 a6) (.int .u8 3) (.int .u8 2) (gdi _ _ _ _ _ _ _ w) (rem8 a6 3 2 (by decide) h6 w)) ?_
        refine L_nil (show cL _ _ _ _ _ from ?_)
        refine cL_block ?_
        refine cL_seq (cL_region ?_)
        refine L_run 147 (.bool false) M (fun w M => ex_bin (.int .u8 2) (.int .u8 1) (.bool false) (gdi _ _ _ _ _ _ _ w) (by kernel_rfl)) ?_
        refine L_run 146 (.bool false) M (fun w M => ex_move _) ?_
        refine L_nil (show cL _ _ _ _ _ from ?_)
        refine cL_if false rfl ?_
        refine cL_seq (cL_region ?_)
        refine L_run 158 (.bool true) M (fun w M => ex_bin (.int .u8 2) (.int .u8 2) (.bool true) (gdi _ _ _ _ _ _ _ w) (by kernel_rfl)) ?_
        refine L_run 157 (.bool true) M (fun w M => ex_move _) ?_
        refine L_nil (show cL _ _ _ _ _ from ?_)
        refine cL_if true rfl ?_
        have hC := M.drew1
        refine cL_cut [0, 1, 2, 3, 4, 5, 6, 7, 8] 9 [] ?_
        refine q_run 159 (.pointer (some ⟨B + 8, 0, none⟩)) hC (fun w M => ex_move _) ?_
        refine q_run 160 (.pointer (some ⟨B + 8, 0, none⟩)) hC (fun w M => ex_nil _) ?_
        refine q_run 161 (.pointer (some ⟨B + 8, 12, none⟩)) hC (fun w M => ex_field _ _ (fa44_7 (B + 8))) ?_
        refine q_run 162 (.map (some (B + 0))) hC (fun w M => ex_load _ _ (run_load1 M (j := 8) (i := 12) rfl T.clients Yba.underlying24 rfl)) ?_
        refine q_run 163 (.pointer (some ⟨B + 10, 0, none⟩)) hC (fun w M => ex_move _) ?_
        refine q_run 164 (.pointer (some ⟨B + 10, 0, none⟩)) hC (fun w M => ex_nil _) ?_
        refine q_run 165 (.pointer (some ⟨B + 10, 0, none⟩)) hC (fun w M => ex_field _ _ (fa57_0 (B + 10))) ?_
        refine q_run 166 (.int .u64 a0) hC (fun w M => ex_load _ _ (run_load1 M (j := 10) (i := 0) rfl C.id Yba.underlying46 rfl)) ?_
        refine q_run 167 (.pointer (some ⟨B + 12, 0, none⟩)) hC (fun w M => ex_move _) ?_
        refine q_then ?_
        clear hC; replace M := M.drew
        refine L_update 0 0 #[] (.int .u64 a0) (.pointer (some ⟨B + 12, 0, none⟩)) M rfl Yba.underlying24 (fun w => ck46 a0 false w) (fun w => find_nil w Yba.underlying46 _) ?_; clear M; intro w M
        have M : Mem w0 w B [.map #[ent (.int .u64 a0) (.pointer (some ⟨B + 12, 0, none⟩)) 0] 1, .map #[ent (.string a1) (.pointer (some ⟨B + 13, 0, none⟩)) 0, ent (.string a2) (.pointer (some ⟨B + 15, 0, none⟩)) 1] 2, .map #[ent (.string a1) (.pointer (some ⟨B + 14, 0, none⟩)) 0] 1, em, em, em, em, em, .cells CT 44 (0, 0), em, .cells CC 57 (0, 0), em, .cells CD 57 (0, 0), .cells #[.pointer pc, .pointer pu] 60 (0, 0), .cells #[.pointer (some ⟨B + 12, 0, none⟩), .pointer none] 60 (0, 0), .cells #[.pointer none, .pointer (some ⟨B + 12, 0, none⟩)] 60 (0, 0)] := M
        refine L_nil (show cT 15 _ _ _ from ?_)
        exact cL_as [(0, .int .u64 a0), (1, .string a1), (2, .string a2), (3, .bool false), (4, .int .u8 a4), (5, .bool a5), (6, .int .u8 a6), (7, .bool a7), (8, .int .u64 a8), (19, .pointer (some ⟨B + 8, 0, none⟩)), (20, .pointer (some ⟨B + 10, 0, none⟩)), (21, .pointer (some ⟨B + 12, 0, none⟩)), (22, .pointer (some ⟨B + 13, 0, none⟩)), (23, .int .i64 k), (24, .map (some (B + 1))), (25, .map (some (B + 2))), (26, .pointer (some ⟨B + 14, 0, none⟩)), (27, .pointer (some ⟨B + 15, 0, none⟩))] (by repeat (first | exact trivial | refine And.intro rfl ?_)) (next true 2 _ _ _ _ h6 (fun _ => h2) (.inr (.inr ⟨rfl, rfl, rfl⟩)) M)
  | true =>
    refine cL_if true rfl ?_
    have hC := M.drews
    refine cL_quiet ?_
    refine q_run 118 (.pointer (some ⟨B + 8, 0, none⟩)) hC (fun w M => ex_move _) ?_
    refine q_run 119 (.pointer (some ⟨B + 8, 0, none⟩)) hC (fun w M => ex_nil _) ?_
    refine q_run 120 (.pointer (some ⟨B + 8, 14, none⟩)) hC (fun w M => ex_field _ _ (fa44_9 (B + 8))) ?_
    refine q_run 121 (.map (some (B + 2))) hC (fun w M => ex_load _ _ (run_load1 M (j := 8) (i := 14) rfl T.owners40 Yba.underlying25 rfl)) ?_
    refine q_run 122 (.pointer (some ⟨B + 8, 0, none⟩)) hC (fun w M => ex_move _) ?_
    refine q_run 123 (.pointer (some ⟨B + 8, 0, none⟩)) hC (fun w M => ex_nil _) ?_
    refine q_run 124 (.pointer (some ⟨B + 8, 13, none⟩)) hC (fun w M => ex_field _ _ (fa44_8 (B + 8))) ?_
    refine q_run 125 (.map (some (B + 1))) hC (fun w M => ex_load _ _ (run_load1 M (j := 8) (i := 13) rfl T.owners Yba.underlying25 rfl)) ?_
    refine q_run 24 (.map (some (B + 2))) hC (fun w M => ex_move _) ?_
    refine q_run 25 (.map (some (B + 1))) hC (fun w M => ex_move _) ?_
    refine q_done hC ?_; clear hC M; intro w M; show cT 9 _ _ _
    refine cT_step 9 (cL_region ?_)
    refine L_run 126 (.map (some (B + 2))) M (fun w M => ex_move _) ?_
    refine L_run 127 (.string a1) M (fun w M => ex_move _) ?_
    refine L_run 128 (.pointer (some ⟨B + 13, 0, none⟩)) M (fun w M => ex_move _) ?_
    refine L_update 2 0 #[] (.string a1) (.pointer (some ⟨B + 13, 0, none⟩)) M rfl Yba.underlying25 (fun w => ck9 a1 false w) (fun w => find_nil w Yba.underlying9 _) ?_; clear M; intro w M
    have M : Mem w0 w B [em, em, .map #[ent (.string a1) (.pointer (some ⟨B + 13, 0, none⟩)) 0] 1, em, em, em, em, em, .cells CT 44 (0, 0), em, .cells CC 57 (0, 0), em, .cells CD 57 (0, 0), .cells #[.pointer pc, .pointer pu] 60 (0, 0)] := M
    refine L_nil (show cT 10 _ _ _ from ?_)
    refine cT_step 10 (cL_region ?_)
    refine L_run 129 (.pointer (some ⟨B + 12, 0, none⟩)) M (fun w M => ex_move _) ?_
    refine L_build 130 _ #[.pointer (some ⟨B + 12, 0, none⟩), .pointer none] (built60_1 _) ?_
    refine L_box 131 14 #[.pointer (some ⟨B + 12, 0, none⟩), .pointer none] M rfl ?_; clear M; intro w M
    refine L_run 26 (.pointer (some ⟨B + 14, 0, none⟩)) M (fun w M => ex_move _) ?_
    refine L_nil (show cT 11 _ _ _ from ?_)
    have M : Mem w0 w B [em, em, .map #[ent (.string a1) (.pointer (some ⟨B + 13, 0, none⟩)) 0] 1, em, em, em, em, em, .cells CT 44 (0, 0), em, .cells CC 57 (0, 0), em, .cells CD 57 (0, 0), .cells #[.pointer pc, .pointer pu] 60 (0, 0), .cells #[.pointer (some ⟨B + 12, 0, none⟩), .pointer none] 60 (0, 0)] := M
    refine cT_step 11 (cL_region ?_)
    refine L_run 132 (.map (some (B + 1))) M (fun w M => ex_move _) ?_
    refine L_run 133 (.string a1) M (fun w M => ex_move _) ?_
    refine L_run 134 (.pointer (some ⟨B + 14, 0, none⟩)) M (fun w M => ex_move _) ?_
    refine L_update 1 0 #[] (.string a1) (.pointer (some ⟨B + 14, 0, none⟩)) M rfl Yba.underlying25 (fun w => ck9 a1 false w) (fun w => find_nil w Yba.underlying9 _) ?_; clear M; intro w M
    have M : Mem w0 w B [em, .map #[ent (.string a1) (.pointer (some ⟨B + 14, 0, none⟩)) 0] 1, .map #[ent (.string a1) (.pointer (some ⟨B + 13, 0, none⟩)) 0] 1, em, em, em, em, em, .cells CT 44 (0, 0), em, .cells CC 57 (0, 0), em, .cells CD 57 (0, 0), .cells #[.pointer pc, .pointer pu] 60 (0, 0), .cells #[.pointer (some ⟨B + 12, 0, none⟩), .pointer none] 60 (0, 0)] := M
    refine L_nil (show cT 12 _ _ _ from ?_)
    refine cT_step 12 (cL_region ?_)
    refine L_run 27 (.pointer none) M (fun w M => ex_move _) ?_
    refine L_nil (show cT 13 _ _ _ from ?_)
    by_cases h2 : a2 = a1
    · refine cT_step 13 (cL_seq (cL_region ?_))
      refine L_run 135 (.string a2) M (fun w M => ex_move _) ?_
      refine L_run 136 (.string a1) M (fun w M => ex_move _) ?_
      refine L_run 137 (.bool false) M (fun w M => ex_bin (.string a2) (.string a1) (.bool false) (gds _ _ _ _ _ _ w) (neq9_eq h2 w)) ?_
      refine L_nil (show cL _ _ _ _ _ from ?_)
      refine cL_if false rfl ?_
      refine cL_skip (show cT 14 _ _ _ from ?_)
      rcases tmod3 a6 w6 with h6 | h6 | h6
      · refine cT_step 14 (cL_seq (cL_region ?_))
        refine L_run 144 (.int .u8 a6) M (fun w M => ex_move _) ?_
        refine L_run 145 (.int .u8 0) M (fun w M => ex_bin (.int .u8 a6) (.int .u8 3) (.int .u8 0) (gdi _ _ _ _ _ _ _ w) (rem8 a6 3 0 (by decide) h6 w)) ?_
        refine L_nil (show cL _ _ _ _ _ from ?_)
        refine cL_block ?_
        refine cL_seq (cL_region ?_)
        refine L_run 147 (.bool false) M (fun w M => ex_bin (.int .u8 0) (.int .u8 1) (.bool false) (gdi _ _ _ _ _ _ _ w) (by kernel_rfl)) ?_
        refine L_run 146 (.bool false) M (fun w M => ex_move _) ?_
        refine L_nil (show cL _ _ _ _ _ from ?_)
        refine cL_if false rfl ?_
        refine cL_seq (cL_region ?_)
        refine L_run 158 (.bool false) M (fun w M => ex_bin (.int .u8 0) (.int .u8 2) (.bool false) (gdi _ _ _ _ _ _ _ w) (by kernel_rfl)) ?_
        refine L_run 157 (.bool false) M (fun w M => ex_move _) ?_
        refine L_nil (show cL _ _ _ _ _ from ?_)
        refine cL_if false rfl ?_
        refine cL_skip (show cT 15 _ _ _ from ?_)
        exact cL_as [(0, .int .u64 a0), (1, .string a1), (2, .string a2), (3, .bool true), (4, .int .u8 a4), (5, .bool a5), (6, .int .u8 a6), (7, .bool a7), (8, .int .u64 a8), (19, .pointer (some ⟨B + 8, 0, none⟩)), (20, .pointer (some ⟨B + 10, 0, none⟩)), (21, .pointer (some ⟨B + 12, 0, none⟩)), (22, .pointer (some ⟨B + 13, 0, none⟩)), (23, .int .i64 k), (24, .map (some (B + 2))), (25, .map (some (B + 1))), (26, .pointer (some ⟨B + 14, 0, none⟩)), (27, .pointer none)] (by repeat (first | exact trivial | refine And.intro rfl ?_)) (next false 0 _ _ _ _ h6 (by intro h; exact Bool.noConfusion h) (.inl ⟨rfl, rfl, rfl⟩) M)
      · refine cT_step 14 (cL_seq (cL_region ?_))
        refine L_run 144 (.int .u8 a6) M (fun w M => ex_move _) ?_
        refine L_run 145 (.int .u8 1) M (fun w M => ex_bin (.int .u8 a6) (.int .u8 3) (.int .u8 1) (gdi _ _ _ _ _ _ _ w) (rem8 a6 3 1 (by decide) h6 w)) ?_
        refine L_nil (show cL _ _ _ _ _ from ?_)
        refine cL_block ?_
        refine cL_seq (cL_region ?_)
        refine L_run 147 (.bool true) M (fun w M => ex_bin (.int .u8 1) (.int .u8 1) (.bool true) (gdi _ _ _ _ _ _ _ w) (by kernel_rfl)) ?_
        refine L_run 146 (.bool true) M (fun w M => ex_move _) ?_
        refine L_nil (show cL _ _ _ _ _ from ?_)
        refine cL_if true rfl ?_
        have hC := M.drew1
        refine cL_cut [0, 1, 2, 3, 4, 5, 6, 7, 8] 9 [] ?_
        refine q_run 148 (.pointer (some ⟨B + 8, 0, none⟩)) hC (fun w M => ex_move _) ?_
        refine q_run 149 (.pointer (some ⟨B + 8, 0, none⟩)) hC (fun w M => ex_nil _) ?_
        refine q_run 150 (.pointer (some ⟨B + 8, 12, none⟩)) hC (fun w M => ex_field _ _ (fa44_7 (B + 8))) ?_
        refine q_run 151 (.map (some (B + 0))) hC (fun w M => ex_load _ _ (run_load1 M (j := 8) (i := 12) rfl T.clients Yba.underlying24 rfl)) ?_
        refine q_run 152 (.pointer (some ⟨B + 10, 0, none⟩)) hC (fun w M => ex_move _) ?_
        refine q_run 153 (.pointer (some ⟨B + 10, 0, none⟩)) hC (fun w M => ex_nil _) ?_
        refine q_run 154 (.pointer (some ⟨B + 10, 0, none⟩)) hC (fun w M => ex_field _ _ (fa57_0 (B + 10))) ?_
        refine q_run 155 (.int .u64 a0) hC (fun w M => ex_load _ _ (run_load1 M (j := 10) (i := 0) rfl C.id Yba.underlying46 rfl)) ?_
        refine q_run 156 (.pointer (some ⟨B + 10, 0, none⟩)) hC (fun w M => ex_move _) ?_
        refine q_then ?_
        clear hC; replace M := M.drew
        refine L_update 0 0 #[] (.int .u64 a0) (.pointer (some ⟨B + 10, 0, none⟩)) M rfl Yba.underlying24 (fun w => ck46 a0 false w) (fun w => find_nil w Yba.underlying46 _) ?_; clear M; intro w M
        have M : Mem w0 w B [.map #[ent (.int .u64 a0) (.pointer (some ⟨B + 10, 0, none⟩)) 0] 1, .map #[ent (.string a1) (.pointer (some ⟨B + 14, 0, none⟩)) 0] 1, .map #[ent (.string a1) (.pointer (some ⟨B + 13, 0, none⟩)) 0] 1, em, em, em, em, em, .cells CT 44 (0, 0), em, .cells CC 57 (0, 0), em, .cells CD 57 (0, 0), .cells #[.pointer pc, .pointer pu] 60 (0, 0), .cells #[.pointer (some ⟨B + 12, 0, none⟩), .pointer none] 60 (0, 0)] := M
        refine L_nil (show cT 15 _ _ _ from ?_)
        exact cL_as [(0, .int .u64 a0), (1, .string a1), (2, .string a2), (3, .bool true), (4, .int .u8 a4), (5, .bool a5), (6, .int .u8 a6), (7, .bool a7), (8, .int .u64 a8), (19, .pointer (some ⟨B + 8, 0, none⟩)), (20, .pointer (some ⟨B + 10, 0, none⟩)), (21, .pointer (some ⟨B + 12, 0, none⟩)), (22, .pointer (some ⟨B + 13, 0, none⟩)), (23, .int .i64 k), (24, .map (some (B + 2))), (25, .map (some (B + 1))), (26, .pointer (some ⟨B + 14, 0, none⟩)), (27, .pointer none)] (by repeat (first | exact trivial | refine And.intro rfl ?_)) (next false 1 _ _ _ _ h6 (by intro h; exact Bool.noConfusion h) (.inr (.inl ⟨rfl, rfl, rfl⟩)) M)
      · refine cT_step 14 (cL_seq (cL_region ?_))
        refine L_run 144 (.int .u8 a6) M (fun w M => ex_move _) ?_
        refine L_run 145 (.int .u8 2) M (fun w M => ex_bin (.int .u8 a6) (.int .u8 3) (.int .u8 2) (gdi _ _ _ _ _ _ _ w) (rem8 a6 3 2 (by decide) h6 w)) ?_
        refine L_nil (show cL _ _ _ _ _ from ?_)
        refine cL_block ?_
        refine cL_seq (cL_region ?_)
        refine L_run 147 (.bool false) M (fun w M => ex_bin (.int .u8 2) (.int .u8 1) (.bool false) (gdi _ _ _ _ _ _ _ w) (by kernel_rfl)) ?_
        refine L_run 146 (.bool false) M (fun w M => ex_move _) ?_
        refine L_nil (show cL _ _ _ _ _ from ?_)
        refine cL_if false rfl ?_
        refine cL_seq (cL_region ?_)
        refine L_run 158 (.bool true) M (fun w M => ex_bin (.int .u8 2) (.int .u8 2) (.bool true) (gdi _ _ _ _ _ _ _ w) (by kernel_rfl)) ?_
        refine L_run 157 (.bool true) M (fun w M => ex_move _) ?_
        refine L_nil (show cL _ _ _ _ _ from ?_)
        refine cL_if true rfl ?_
        have hC := M.drew1
        refine cL_cut [0, 1, 2, 3, 4, 5, 6, 7, 8] 9 [] ?_
        refine q_run 159 (.pointer (some ⟨B + 8, 0, none⟩)) hC (fun w M => ex_move _) ?_
        refine q_run 160 (.pointer (some ⟨B + 8, 0, none⟩)) hC (fun w M => ex_nil _) ?_
        refine q_run 161 (.pointer (some ⟨B + 8, 12, none⟩)) hC (fun w M => ex_field _ _ (fa44_7 (B + 8))) ?_
        refine q_run 162 (.map (some (B + 0))) hC (fun w M => ex_load _ _ (run_load1 M (j := 8) (i := 12) rfl T.clients Yba.underlying24 rfl)) ?_
        refine q_run 163 (.pointer (some ⟨B + 10, 0, none⟩)) hC (fun w M => ex_move _) ?_
        refine q_run 164 (.pointer (some ⟨B + 10, 0, none⟩)) hC (fun w M => ex_nil _) ?_
        refine q_run 165 (.pointer (some ⟨B + 10, 0, none⟩)) hC (fun w M => ex_field _ _ (fa57_0 (B + 10))) ?_
        refine q_run 166 (.int .u64 a0) hC (fun w M => ex_load _ _ (run_load1 M (j := 10) (i := 0) rfl C.id Yba.underlying46 rfl)) ?_
        refine q_run 167 (.pointer (some ⟨B + 12, 0, none⟩)) hC (fun w M => ex_move _) ?_
        refine q_then ?_
        clear hC; replace M := M.drew
        refine L_update 0 0 #[] (.int .u64 a0) (.pointer (some ⟨B + 12, 0, none⟩)) M rfl Yba.underlying24 (fun w => ck46 a0 false w) (fun w => find_nil w Yba.underlying46 _) ?_; clear M; intro w M
        have M : Mem w0 w B [.map #[ent (.int .u64 a0) (.pointer (some ⟨B + 12, 0, none⟩)) 0] 1, .map #[ent (.string a1) (.pointer (some ⟨B + 14, 0, none⟩)) 0] 1, .map #[ent (.string a1) (.pointer (some ⟨B + 13, 0, none⟩)) 0] 1, em, em, em, em, em, .cells CT 44 (0, 0), em, .cells CC 57 (0, 0), em, .cells CD 57 (0, 0), .cells #[.pointer pc, .pointer pu] 60 (0, 0), .cells #[.pointer (some ⟨B + 12, 0, none⟩), .pointer none] 60 (0, 0)] := M
        refine L_nil (show cT 15 _ _ _ from ?_)
        exact cL_as [(0, .int .u64 a0), (1, .string a1), (2, .string a2), (3, .bool true), (4, .int .u8 a4), (5, .bool a5), (6, .int .u8 a6), (7, .bool a7), (8, .int .u64 a8), (19, .pointer (some ⟨B + 8, 0, none⟩)), (20, .pointer (some ⟨B + 10, 0, none⟩)), (21, .pointer (some ⟨B + 12, 0, none⟩)), (22, .pointer (some ⟨B + 13, 0, none⟩)), (23, .int .i64 k), (24, .map (some (B + 2))), (25, .map (some (B + 1))), (26, .pointer (some ⟨B + 14, 0, none⟩)), (27, .pointer none)] (by repeat (first | exact trivial | refine And.intro rfl ?_)) (next false 2 _ _ _ _ h6 (by intro h; exact Bool.noConfusion h) (.inr (.inr ⟨rfl, rfl, rfl⟩)) M)
    · refine cT_step 13 (cL_seq (cL_region ?_))
      refine L_run 135 (.string a2) M (fun w M => ex_move _) ?_
      refine L_run 136 (.string a1) M (fun w M => ex_move _) ?_
      refine L_run 137 (.bool true) M (fun w M => ex_bin (.string a2) (.string a1) (.bool true) (gds _ _ _ _ _ _ w) (neq9_diff h2 w)) ?_
      refine L_nil (show cL _ _ _ _ _ from ?_)
      refine cL_if true rfl ?_
      refine cL_seq (cL_region ?_)
      refine L_run 138 (.pointer (some ⟨B + 12, 0, none⟩)) M (fun w M => ex_move _) ?_
      refine L_build 139 _ #[.pointer none, .pointer (some ⟨B + 12, 0, none⟩)] (built60_2 _) ?_
      refine L_box 140 15 #[.pointer none, .pointer (some ⟨B + 12, 0, none⟩)] M rfl ?_; clear M; intro w M
      refine L_run 27 (.pointer (some ⟨B + 15, 0, none⟩)) M (fun w M => ex_move _) ?_
      have M : Mem w0 w B [em, .map #[ent (.string a1) (.pointer (some ⟨B + 14, 0, none⟩)) 0] 1, .map #[ent (.string a1) (.pointer (some ⟨B + 13, 0, none⟩)) 0] 1, em, em, em, em, em, .cells CT 44 (0, 0), em, .cells CC 57 (0, 0), em, .cells CD 57 (0, 0), .cells #[.pointer pc, .pointer pu] 60 (0, 0), .cells #[.pointer (some ⟨B + 12, 0, none⟩), .pointer none] 60 (0, 0), .cells #[.pointer none, .pointer (some ⟨B + 12, 0, none⟩)] 60 (0, 0)] := M
      refine L_nil (show cL _ _ _ _ _ from ?_)
      refine cL_region ?_
      refine L_run 141 (.map (some (B + 2))) M (fun w M => ex_move _) ?_
      refine L_run 142 (.string a2) M (fun w M => ex_move _) ?_
      refine L_run 143 (.pointer (some ⟨B + 15, 0, none⟩)) M (fun w M => ex_move _) ?_
      refine L_update 2 1 #[ent (.string a1) (.pointer (some ⟨B + 13, 0, none⟩)) 0] (.string a2) (.pointer (some ⟨B + 15, 0, none⟩)) M rfl Yba.underlying25 (fun w => ck9 a2 false w) (fun w => find_miss w Yba.underlying9 _ _ _ _ (diff_str h2)) ?_; clear M; intro w M
      have M : Mem w0 w B [em, .map #[ent (.string a1) (.pointer (some ⟨B + 14, 0, none⟩)) 0] 1, .map #[ent (.string a1) (.pointer (some ⟨B + 13, 0, none⟩)) 0, ent (.string a2) (.pointer (some ⟨B + 15, 0, none⟩)) 1] 2, em, em, em, em, em, .cells CT 44 (0, 0), em, .cells CC 57 (0, 0), em, .cells CD 57 (0, 0), .cells #[.pointer pc, .pointer pu] 60 (0, 0), .cells #[.pointer (some ⟨B + 12, 0, none⟩), .pointer none] 60 (0, 0), .cells #[.pointer none, .pointer (some ⟨B + 12, 0, none⟩)] 60 (0, 0)] := M
      refine L_nil (show cT 14 _ _ _ from ?_)
      rcases tmod3 a6 w6 with h6 | h6 | h6
      · refine cT_step 14 (cL_seq (cL_region ?_))
        refine L_run 144 (.int .u8 a6) M (fun w M => ex_move _) ?_
        refine L_run 145 (.int .u8 0) M (fun w M => ex_bin (.int .u8 a6) (.int .u8 3) (.int .u8 0) (gdi _ _ _ _ _ _ _ w) (rem8 a6 3 0 (by decide) h6 w)) ?_
        refine L_nil (show cL _ _ _ _ _ from ?_)
        refine cL_block ?_
        refine cL_seq (cL_region ?_)
        refine L_run 147 (.bool false) M (fun w M => ex_bin (.int .u8 0) (.int .u8 1) (.bool false) (gdi _ _ _ _ _ _ _ w) (by kernel_rfl)) ?_
        refine L_run 146 (.bool false) M (fun w M => ex_move _) ?_
        refine L_nil (show cL _ _ _ _ _ from ?_)
        refine cL_if false rfl ?_
        refine cL_seq (cL_region ?_)
        refine L_run 158 (.bool false) M (fun w M => ex_bin (.int .u8 0) (.int .u8 2) (.bool false) (gdi _ _ _ _ _ _ _ w) (by kernel_rfl)) ?_
        refine L_run 157 (.bool false) M (fun w M => ex_move _) ?_
        refine L_nil (show cL _ _ _ _ _ from ?_)
        refine cL_if false rfl ?_
        refine cL_skip (show cT 15 _ _ _ from ?_)
        exact cL_as [(0, .int .u64 a0), (1, .string a1), (2, .string a2), (3, .bool true), (4, .int .u8 a4), (5, .bool a5), (6, .int .u8 a6), (7, .bool a7), (8, .int .u64 a8), (19, .pointer (some ⟨B + 8, 0, none⟩)), (20, .pointer (some ⟨B + 10, 0, none⟩)), (21, .pointer (some ⟨B + 12, 0, none⟩)), (22, .pointer (some ⟨B + 13, 0, none⟩)), (23, .int .i64 k), (24, .map (some (B + 2))), (25, .map (some (B + 1))), (26, .pointer (some ⟨B + 14, 0, none⟩)), (27, .pointer (some ⟨B + 15, 0, none⟩))] (by repeat (first | exact trivial | refine And.intro rfl ?_)) (next true 0 _ _ _ _ h6 (fun _ => h2) (.inl ⟨rfl, rfl, rfl⟩) M)
      · refine cT_step 14 (cL_seq (cL_region ?_))
        refine L_run 144 (.int .u8 a6) M (fun w M => ex_move _) ?_
        refine L_run 145 (.int .u8 1) M (fun w M => ex_bin (.int .u8 a6) (.int .u8 3) (.int .u8 1) (gdi _ _ _ _ _ _ _ w) (rem8 a6 3 1 (by decide) h6 w)) ?_
        refine L_nil (show cL _ _ _ _ _ from ?_)
        refine cL_block ?_
        refine cL_seq (cL_region ?_)
        refine L_run 147 (.bool true) M (fun w M => ex_bin (.int .u8 1) (.int .u8 1) (.bool true) (gdi _ _ _ _ _ _ _ w) (by kernel_rfl)) ?_
        refine L_run 146 (.bool true) M (fun w M => ex_move _) ?_
        refine L_nil (show cL _ _ _ _ _ from ?_)
        refine cL_if true rfl ?_
        have hC := M.drew1
        refine cL_cut [0, 1, 2, 3, 4, 5, 6, 7, 8] 9 [] ?_
        refine q_run 148 (.pointer (some ⟨B + 8, 0, none⟩)) hC (fun w M => ex_move _) ?_
        refine q_run 149 (.pointer (some ⟨B + 8, 0, none⟩)) hC (fun w M => ex_nil _) ?_
        refine q_run 150 (.pointer (some ⟨B + 8, 12, none⟩)) hC (fun w M => ex_field _ _ (fa44_7 (B + 8))) ?_
        refine q_run 151 (.map (some (B + 0))) hC (fun w M => ex_load _ _ (run_load1 M (j := 8) (i := 12) rfl T.clients Yba.underlying24 rfl)) ?_
        refine q_run 152 (.pointer (some ⟨B + 10, 0, none⟩)) hC (fun w M => ex_move _) ?_
        refine q_run 153 (.pointer (some ⟨B + 10, 0, none⟩)) hC (fun w M => ex_nil _) ?_
        refine q_run 154 (.pointer (some ⟨B + 10, 0, none⟩)) hC (fun w M => ex_field _ _ (fa57_0 (B + 10))) ?_
        refine q_run 155 (.int .u64 a0) hC (fun w M => ex_load _ _ (run_load1 M (j := 10) (i := 0) rfl C.id Yba.underlying46 rfl)) ?_
        refine q_run 156 (.pointer (some ⟨B + 10, 0, none⟩)) hC (fun w M => ex_move _) ?_
        refine q_then ?_
        clear hC; replace M := M.drew
        refine L_update 0 0 #[] (.int .u64 a0) (.pointer (some ⟨B + 10, 0, none⟩)) M rfl Yba.underlying24 (fun w => ck46 a0 false w) (fun w => find_nil w Yba.underlying46 _) ?_; clear M; intro w M
        have M : Mem w0 w B [.map #[ent (.int .u64 a0) (.pointer (some ⟨B + 10, 0, none⟩)) 0] 1, .map #[ent (.string a1) (.pointer (some ⟨B + 14, 0, none⟩)) 0] 1, .map #[ent (.string a1) (.pointer (some ⟨B + 13, 0, none⟩)) 0, ent (.string a2) (.pointer (some ⟨B + 15, 0, none⟩)) 1] 2, em, em, em, em, em, .cells CT 44 (0, 0), em, .cells CC 57 (0, 0), em, .cells CD 57 (0, 0), .cells #[.pointer pc, .pointer pu] 60 (0, 0), .cells #[.pointer (some ⟨B + 12, 0, none⟩), .pointer none] 60 (0, 0), .cells #[.pointer none, .pointer (some ⟨B + 12, 0, none⟩)] 60 (0, 0)] := M
        refine L_nil (show cT 15 _ _ _ from ?_)
        exact cL_as [(0, .int .u64 a0), (1, .string a1), (2, .string a2), (3, .bool true), (4, .int .u8 a4), (5, .bool a5), (6, .int .u8 a6), (7, .bool a7), (8, .int .u64 a8), (19, .pointer (some ⟨B + 8, 0, none⟩)), (20, .pointer (some ⟨B + 10, 0, none⟩)), (21, .pointer (some ⟨B + 12, 0, none⟩)), (22, .pointer (some ⟨B + 13, 0, none⟩)), (23, .int .i64 k), (24, .map (some (B + 2))), (25, .map (some (B + 1))), (26, .pointer (some ⟨B + 14, 0, none⟩)), (27, .pointer (some ⟨B + 15, 0, none⟩))] (by repeat (first | exact trivial | refine And.intro rfl ?_)) (next true 1 _ _ _ _ h6 (fun _ => h2) (.inr (.inl ⟨rfl, rfl, rfl⟩)) M)
      · refine cT_step 14 (cL_seq (cL_region ?_))
        refine L_run 144 (.int .u8 a6) M (fun w M => ex_move _) ?_
        refine L_run 145 (.int .u8 2) M (fun w M => ex_bin (.int .u8 a6) (.int .u8 3) (.int .u8 2) (gdi _ _ _ _ _ _ _ w) (rem8 a6 3 2 (by decide) h6 w)) ?_
        refine L_nil (show cL _ _ _ _ _ from ?_)
        refine cL_block ?_
        refine cL_seq (cL_region ?_)
        refine L_run 147 (.bool false) M (fun w M => ex_bin (.int .u8 2) (.int .u8 1) (.bool false) (gdi _ _ _ _ _ _ _ w) (by kernel_rfl)) ?_
        refine L_run 146 (.bool false) M (fun w M => ex_move _) ?_
        refine L_nil (show cL _ _ _ _ _ from ?_)
        refine cL_if false rfl ?_
        refine cL_seq (cL_region ?_)
        refine L_run 158 (.bool true) M (fun w M => ex_bin (.int .u8 2) (.int .u8 2) (.bool true) (gdi _ _ _ _ _ _ _ w) (by kernel_rfl)) ?_
        refine L_run 157 (.bool true) M (fun w M => ex_move _) ?_
        refine L_nil (show cL _ _ _ _ _ from ?_)
        refine cL_if true rfl ?_
        have hC := M.drew1
        refine cL_cut [0, 1, 2, 3, 4, 5, 6, 7, 8] 9 [] ?_
        refine q_run 159 (.pointer (some ⟨B + 8, 0, none⟩)) hC (fun w M => ex_move _) ?_
        refine q_run 160 (.pointer (some ⟨B + 8, 0, none⟩)) hC (fun w M => ex_nil _) ?_
        refine q_run 161 (.pointer (some ⟨B + 8, 12, none⟩)) hC (fun w M => ex_field _ _ (fa44_7 (B + 8))) ?_
        refine q_run 162 (.map (some (B + 0))) hC (fun w M => ex_load _ _ (run_load1 M (j := 8) (i := 12) rfl T.clients Yba.underlying24 rfl)) ?_
        refine q_run 163 (.pointer (some ⟨B + 10, 0, none⟩)) hC (fun w M => ex_move _) ?_
        refine q_run 164 (.pointer (some ⟨B + 10, 0, none⟩)) hC (fun w M => ex_nil _) ?_
        refine q_run 165 (.pointer (some ⟨B + 10, 0, none⟩)) hC (fun w M => ex_field _ _ (fa57_0 (B + 10))) ?_
        refine q_run 166 (.int .u64 a0) hC (fun w M => ex_load _ _ (run_load1 M (j := 10) (i := 0) rfl C.id Yba.underlying46 rfl)) ?_
        refine q_run 167 (.pointer (some ⟨B + 12, 0, none⟩)) hC (fun w M => ex_move _) ?_
        refine q_then ?_
        clear hC; replace M := M.drew
        refine L_update 0 0 #[] (.int .u64 a0) (.pointer (some ⟨B + 12, 0, none⟩)) M rfl Yba.underlying24 (fun w => ck46 a0 false w) (fun w => find_nil w Yba.underlying46 _) ?_; clear M; intro w M
        have M : Mem w0 w B [.map #[ent (.int .u64 a0) (.pointer (some ⟨B + 12, 0, none⟩)) 0] 1, .map #[ent (.string a1) (.pointer (some ⟨B + 14, 0, none⟩)) 0] 1, .map #[ent (.string a1) (.pointer (some ⟨B + 13, 0, none⟩)) 0, ent (.string a2) (.pointer (some ⟨B + 15, 0, none⟩)) 1] 2, em, em, em, em, em, .cells CT 44 (0, 0), em, .cells CC 57 (0, 0), em, .cells CD 57 (0, 0), .cells #[.pointer pc, .pointer pu] 60 (0, 0), .cells #[.pointer (some ⟨B + 12, 0, none⟩), .pointer none] 60 (0, 0), .cells #[.pointer none, .pointer (some ⟨B + 12, 0, none⟩)] 60 (0, 0)] := M
        refine L_nil (show cT 15 _ _ _ from ?_)
        exact cL_as [(0, .int .u64 a0), (1, .string a1), (2, .string a2), (3, .bool true), (4, .int .u8 a4), (5, .bool a5), (6, .int .u8 a6), (7, .bool a7), (8, .int .u64 a8), (19, .pointer (some ⟨B + 8, 0, none⟩)), (20, .pointer (some ⟨B + 10, 0, none⟩)), (21, .pointer (some ⟨B + 12, 0, none⟩)), (22, .pointer (some ⟨B + 13, 0, none⟩)), (23, .int .i64 k), (24, .map (some (B + 2))), (25, .map (some (B + 1))), (26, .pointer (some ⟨B + 14, 0, none⟩)), (27, .pointer (some ⟨B + 15, 0, none⟩))] (by repeat (first | exact trivial | refine And.intro rfl ?_)) (next true 2 _ _ _ _ h6 (fun _ => h2) (.inr (.inr ⟨rfl, rfl, rfl⟩)) M)
end Go.Proofs.Ybulkdufc
