/-
  The first part: the table, the two clients, the owner's record.
-/
import Derived.Test.YbulkdufcEng2
namespace Go.Proofs.Ybulkdufc
open Go.RowKit Go.Split
set_option maxRecDepth 100000 in
theorem phA (a0 : Int) (a1 a2 : ByteArray) (a3 : Bool) (a4 : Int) (a5 : Bool) (a6 : Int) (a7 : Bool) (a8 : Int) (w4 : (Lit.int .u8 a4).wf = true) (w0 w : World) (B : Nat) (R : Ending → World → Prop) (s : Nat → Value) (M : Mem w0 w B [])
    (next : ∀ (CT CC CD : Array Value) (k : Int) (pc pu pc1 pu1 : Option Addr) (kept : Bool) (s' : Nat → Value) (w' : World), Tab CT B → Cli CC a0 a1 a3 (B + 9) → Cli CD a0 a1 a3 (B + 11) → Way B k a5 pc pu pc1 pu1 kept → Mem w0 w' B (LA CT CC CD pc pu) →
      cT 7 (bodyPost Yba.prog Yba.f3 R) (look [(0, .int .u64 a0), (1, .string a1), (2, .string a2), (3, .bool a3), (4, .int .u8 a4), (5, .bool a5), (6, .int .u8 a6), (7, .bool a7), (8, .int .u64 a8), (19, .pointer (some ⟨B + 8, 0, none⟩)), (20, .pointer (some ⟨B + 10, 0, none⟩)), (21, .pointer (some ⟨B + 12, 0, none⟩)), (22, .pointer (some ⟨B + 13, 0, none⟩)), (23, .int .i64 k)] s') w') :
    cT 0 (bodyPost Yba.prog Yba.f3 R) (look [(0, .int .u64 a0), (1, .string a1), (2, .string a2), (3, .bool a3), (4, .int .u8 a4), (5, .bool a5), (6, .int .u8 a6), (7, .bool a7), (8, .int .u64 a8)] s) w := by
  obtain ⟨CT, hCT, T⟩ := built44 B
  obtain ⟨CC, hCC, C⟩ := built57 a0 a1 a3 (B + 9)
  obtain ⟨CD, hCD, D⟩ := built57 a0 a1 a3 (B + 11)
  refine cT_step 0 (cL_region ?_)
  refine L_run 18 (.bool false) M (fun w M => ex_move _) ?_
  refine L_nil (show cT 1 _ _ _ from ?_)
  refine cT_step 1 (cL_region ?_)
  refine L_makeMap 41 0 M rfl ?_; clear M; intro w M
  refine L_makeMap 42 1 M rfl ?_; clear M; intro w M
  refine L_makeMap 43 2 M rfl ?_; clear M; intro w M
  refine L_makeMap 44 3 M rfl ?_; clear M; intro w M
  refine L_makeMap 45 4 M rfl ?_; clear M; intro w M
  refine L_makeMap 46 5 M rfl ?_; clear M; intro w M
  refine L_makeMap 47 6 M rfl ?_; clear M; intro w M
  refine L_makeMap 48 7 M rfl ?_; clear M; intro w M
  refine L_build 49 _ CT hCT ?_
  refine L_box 50 8 CT M rfl ?_; clear M; intro w M
  refine L_run 19 (.pointer (some ⟨B + 8, 0, none⟩)) M (fun w M => ex_move _) ?_
  refine L_nil (show cT 2 _ _ _ from ?_)
  refine cT_step 2 (cL_region ?_)
  refine L_run 51 (.int .u64 a0) M (fun w M => ex_move _) ?_
  refine L_run 52 (.string a1) M (fun w M => ex_move _) ?_
  refine L_run 53 (.bool a3) M (fun w M => ex_move _) ?_
  refine L_makeMap 54 9 M rfl ?_; clear M; intro w M
  refine L_build 55 _ CC hCC ?_
  refine L_box 56 10 CC M rfl ?_; clear M; intro w M
  refine L_run 20 (.pointer (some ⟨B + 10, 0, none⟩)) M (fun w M => ex_move _) ?_
  refine L_nil (show cT 3 _ _ _ from ?_)
  refine cT_step 3 (cL_region ?_)
  refine L_run 57 (.int .u64 a0) M (fun w M => ex_move _) ?_
  refine L_run 58 (.string a1) M (fun w M => ex_move _) ?_
  refine L_run 59 (.bool a3) M (fun w M => ex_move _) ?_
  refine L_makeMap 60 11 M rfl ?_; clear M; intro w M
  refine L_build 61 _ CD hCD ?_
  refine L_box 62 12 CD M rfl ?_; clear M; intro w M
  refine L_run 21 (.pointer (some ⟨B + 12, 0, none⟩)) M (fun w M => ex_move _) ?_
  refine L_nil (show cT 4 _ _ _ from ?_)
  refine cT_step 4 (cL_region ?_)
  refine L_build 63 _ #[.pointer none, .pointer none] built60_0 ?_
  refine L_box 64 13 #[.pointer none, .pointer none] M rfl ?_; clear M; intro w M
  refine L_run 22 (.pointer (some ⟨B + 13, 0, none⟩)) M (fun w M => ex_move _) ?_
  refine L_nil (show cT 5 _ _ _ from ?_)
  have M : Mem w0 w B (LA CT CC CD none none) := M
  rcases tmod4 a4 w4 with h4 | h4 | h4 | h4
  · refine cT_step 5 (cL_region ?_)
    refine L_run 65 (.int .u8 a4) M (fun w M => ex_move _) ?_
    refine L_run 66 (.int .u8 0) M (fun w M => ex_bin (.int .u8 a4) (.int .u8 4) (.int .u8 0) (gdi _ _ _ _ _ _ _ w) (rem8 a4 4 0 (by decide) h4 w)) ?_
    refine L_run 67 (.int .i64 0) M (fun w M => by kernel_rfl) ?_
    refine L_run 23 (.int .i64 0) M (fun w M => ex_move _) ?_
    refine L_nil (show cT 6 _ _ _ from ?_)
    refine cT_step 6 (cL_seq (cL_region ?_))
    refine L_run 68 (.int .i64 0) M (fun w M => ex_move _) ?_
    refine L_nil (show cL _ _ _ _ _ from ?_)
    refine cL_block ?_
    refine cL_seq (cL_region ?_)
    refine L_run 78 (.bool true) M (fun w M => ex_bin (.int .i64 0) (.int .i64 0) (.bool true) (gdi _ _ _ _ _ _ _ w) (by kernel_rfl)) ?_
    refine L_run 77 (.bool true) M (fun w M => ex_move _) ?_
    refine L_nil (show cL _ _ _ _ _ from ?_)
    refine cL_if true rfl ?_
    refine cL_seq (cL_region ?_)
    refine L_run 79 (.pointer (some ⟨B + 13, 0, none⟩)) M (fun w M => ex_move _) ?_
    refine L_run 80 (.pointer (some ⟨B + 10, 0, none⟩)) M (fun w M => ex_move _) ?_
    refine L_run 81 (.pointer (some ⟨B + 13, 0, none⟩)) M (fun w M => ex_nil _) ?_
    refine L_run 82 (.pointer (some ⟨B + 13, 0, none⟩)) M (fun w M => ex_field _ _ (fa60_0 (B + 13))) ?_
    refine L_store1 13 0 (.pointer (cc B)) _ 60 M rfl (by simp) size45 ?_; clear M; intro w M
    have M : Mem w0 w B (LA CT CC CD (cc B) none) := M
    refine L_nil (show cL _ _ _ _ _ from ?_)
    refine cL_region ?_
    refine L_run 83 (.pointer (some ⟨B + 13, 0, none⟩)) M (fun w M => ex_move _) ?_
    refine L_run 84 (.bool a5) M (fun w M => ex_move _) ?_
    refine L_run 85 (.pointer (some ⟨B + 12, 0, none⟩)) M (fun w M => ex_move _) ?_
    refine L_call 86 4 #[.bool a5, .pointer (some ⟨B + 12, 0, none⟩)] (by kernel_rfl) ?_
    refine (pick_any _ _ _).mono ?_; rintro _ _ ⟨rfl, rfl⟩; refine ⟨_, rfl, ?_⟩
    refine L_run 87 (.pointer (some ⟨B + 13, 0, none⟩)) M (fun w M => ex_nil _) ?_
    refine L_run 88 (.pointer (some ⟨B + 13, 1, none⟩)) M (fun w M => ex_field _ _ (fa60_1 (B + 13))) ?_
    refine L_store1 13 1 (.pointer (dd B a5)) _ 60 M rfl (by simp) size45 ?_; clear M; intro w M
    have M : Mem w0 w B (LA CT CC CD (cc B) (dd B a5)) := M
    refine L_nil (show cT 7 _ _ _ from ?_)
    exact cL_as [(0, .int .u64 a0), (1, .string a1), (2, .string a2), (3, .bool a3), (4, .int .u8 a4), (5, .bool a5), (6, .int .u8 a6), (7, .bool a7), (8, .int .u64 a8), (19, .pointer (some ⟨B + 8, 0, none⟩)), (20, .pointer (some ⟨B + 10, 0, none⟩)), (21, .pointer (some ⟨B + 12, 0, none⟩)), (22, .pointer (some ⟨B + 13, 0, none⟩)), (23, .int .i64 0)] (by repeat (first | exact trivial | refine And.intro rfl ?_)) (next CT CC CD 0 _ _ _ _ _ _ _ T C D (.inl ⟨rfl, rfl, rfl, rfl, rfl, rfl⟩) M)
  · refine cT_step 5 (cL_region ?_)
    refine L_run 65 (.int .u8 a4) M (fun w M => ex_move _) ?_
    refine L_run 66 (.int .u8 1) M (fun w M => ex_bin (.int .u8 a4) (.int .u8 4) (.int .u8 1) (gdi _ _ _ _ _ _ _ w) (rem8 a4 4 1 (by decide) h4 w)) ?_
    refine L_run 67 (.int .i64 1) M (fun w M => by kernel_rfl) ?_
    refine L_run 23 (.int .i64 1) M (fun w M => ex_move _) ?_
    refine L_nil (show cT 6 _ _ _ from ?_)
    refine cT_step 6 (cL_seq (cL_region ?_))
    refine L_run 68 (.int .i64 1) M (fun w M => ex_move _) ?_
    refine L_nil (show cL _ _ _ _ _ from ?_)
    refine cL_block ?_
    refine cL_seq (cL_region ?_)
    refine L_run 78 (.bool false) M (fun w M => ex_bin (.int .i64 1) (.int .i64 0) (.bool false) (gdi _ _ _ _ _ _ _ w) (by kernel_rfl)) ?_
    refine L_run 77 (.bool false) M (fun w M => ex_move _) ?_
    refine L_nil (show cL _ _ _ _ _ from ?_)
    refine cL_if false rfl ?_
    refine cL_seq (cL_region ?_)
    refine L_run 90 (.bool true) M (fun w M => ex_bin (.int .i64 1) (.int .i64 1) (.bool true) (gdi _ _ _ _ _ _ _ w) (by kernel_rfl)) ?_
    refine L_run 89 (.bool true) M (fun w M => ex_move _) ?_
    refine L_nil (show cL _ _ _ _ _ from ?_)
    refine cL_if true rfl ?_
    refine cL_seq (cL_region ?_)
    refine L_run 91 (.pointer (some ⟨B + 13, 0, none⟩)) M (fun w M => ex_move _) ?_
    refine L_run 92 (.pointer (some ⟨B + 10, 0, none⟩)) M (fun w M => ex_move _) ?_
    refine L_run 93 (.pointer (some ⟨B + 13, 0, none⟩)) M (fun w M => ex_nil _) ?_
    refine L_run 94 (.pointer (some ⟨B + 13, 1, none⟩)) M (fun w M => ex_field _ _ (fa60_1 (B + 13))) ?_
    refine L_store1 13 1 (.pointer (cc B)) _ 60 M rfl (by simp) size45 ?_; clear M; intro w M
    have M : Mem w0 w B (LA CT CC CD none (cc B)) := M
    refine L_nil (show cL _ _ _ _ _ from ?_)
    refine cL_region ?_
    refine L_run 95 (.pointer (some ⟨B + 13, 0, none⟩)) M (fun w M => ex_move _) ?_
    refine L_run 96 (.bool a5) M (fun w M => ex_move _) ?_
    refine L_run 97 (.pointer (some ⟨B + 12, 0, none⟩)) M (fun w M => ex_move _) ?_
    refine L_call 98 4 #[.bool a5, .pointer (some ⟨B + 12, 0, none⟩)] (by kernel_rfl) ?_
    refine (pick_any _ _ _).mono ?_; rintro _ _ ⟨rfl, rfl⟩; refine ⟨_, rfl, ?_⟩
    refine L_run 99 (.pointer (some ⟨B + 13, 0, none⟩)) M (fun w M => ex_nil _) ?_
    refine L_run 100 (.pointer (some ⟨B + 13, 0, none⟩)) M (fun w M => ex_field _ _ (fa60_0 (B + 13))) ?_
    refine L_store1 13 0 (.pointer (dd B a5)) _ 60 M rfl (by simp) size45 ?_; clear M; intro w M
    have M : Mem w0 w B (LA CT CC CD (dd B a5) (cc B)) := M
    refine L_nil (show cT 7 _ _ _ from ?_)
    exact cL_as [(0, .int .u64 a0), (1, .string a1), (2, .string a2), (3, .bool a3), (4, .int .u8 a4), (5, .bool a5), (6, .int .u8 a6), (7, .bool a7), (8, .int .u64 a8), (19, .pointer (some ⟨B + 8, 0, none⟩)), (20, .pointer (some ⟨B + 10, 0, none⟩)), (21, .pointer (some ⟨B + 12, 0, none⟩)), (22, .pointer (some ⟨B + 13, 0, none⟩)), (23, .int .i64 1)] (by repeat (first | exact trivial | refine And.intro rfl ?_)) (next CT CC CD 1 _ _ _ _ _ _ _ T C D (.inr (.inl ⟨rfl, rfl, rfl, rfl, rfl, rfl⟩)) M)
  · refine cT_step 5 (cL_region ?_)
    refine L_run 65 (.int .u8 a4) M (fun w M => ex_move _) ?_
    refine L_run 66 (.int .u8 2) M (fun w M => ex_bin (.int .u8 a4) (.int .u8 4) (.int .u8 2) (gdi _ _ _ _ _ _ _ w) (rem8 a4 4 2 (by decide) h4 w)) ?_
    refine L_run 67 (.int .i64 2) M (fun w M => by kernel_rfl) ?_
    refine L_run 23 (.int .i64 2) M (fun w M => ex_move _) ?_
    refine L_nil (show cT 6 _ _ _ from ?_)
    refine cT_step 6 (cL_seq (cL_region ?_))
    refine L_run 68 (.int .i64 2) M (fun w M => ex_move _) ?_
    refine L_nil (show cL _ _ _ _ _ from ?_)
    refine cL_block ?_
    refine cL_seq (cL_region ?_)
    refine L_run 78 (.bool false) M (fun w M => ex_bin (.int .i64 2) (.int .i64 0) (.bool false) (gdi _ _ _ _ _ _ _ w) (by kernel_rfl)) ?_
    refine L_run 77 (.bool false) M (fun w M => ex_move _) ?_
    refine L_nil (show cL _ _ _ _ _ from ?_)
    refine cL_if false rfl ?_
    refine cL_seq (cL_region ?_)
    refine L_run 90 (.bool false) M (fun w M => ex_bin (.int .i64 2) (.int .i64 1) (.bool false) (gdi _ _ _ _ _ _ _ w) (by kernel_rfl)) ?_
    refine L_run 89 (.bool false) M (fun w M => ex_move _) ?_
    refine L_nil (show cL _ _ _ _ _ from ?_)
    refine cL_if false rfl ?_
    refine cL_seq (cL_region ?_)
    refine L_run 102 (.bool true) M (fun w M => ex_bin (.int .i64 2) (.int .i64 2) (.bool true) (gdi _ _ _ _ _ _ _ w) (by kernel_rfl)) ?_
    refine L_run 101 (.bool true) M (fun w M => ex_move _) ?_
    refine L_nil (show cL _ _ _ _ _ from ?_)
    refine cL_if true rfl ?_
    refine cL_region ?_
    refine L_run 103 (.pointer (some ⟨B + 13, 0, none⟩)) M (fun w M => ex_move _) ?_
    refine L_run 104 (.bool a5) M (fun w M => ex_move _) ?_
    refine L_run 105 (.pointer (some ⟨B + 12, 0, none⟩)) M (fun w M => ex_move _) ?_
    refine L_call 106 4 #[.bool a5, .pointer (some ⟨B + 12, 0, none⟩)] (by kernel_rfl) ?_
    refine (pick_any _ _ _).mono ?_; rintro _ _ ⟨rfl, rfl⟩; refine ⟨_, rfl, ?_⟩
    refine L_run 107 (.pointer (some ⟨B + 13, 0, none⟩)) M (fun w M => ex_nil _) ?_
    refine L_run 108 (.pointer (some ⟨B + 13, 0, none⟩)) M (fun w M => ex_field _ _ (fa60_0 (B + 13))) ?_
    refine L_store1 13 0 (.pointer (dd B a5)) _ 60 M rfl (by simp) size45 ?_; clear M; intro w M
    have M : Mem w0 w B (LA CT CC CD (dd B a5) none) := M
    refine L_nil (show cT 7 _ _ _ from ?_)
    exact cL_as [(0, .int .u64 a0), (1, .string a1), (2, .string a2), (3, .bool a3), (4, .int .u8 a4), (5, .bool a5), (6, .int .u8 a6), (7, .bool a7), (8, .int .u64 a8), (19, .pointer (some ⟨B + 8, 0, none⟩)), (20, .pointer (some ⟨B + 10, 0, none⟩)), (21, .pointer (some ⟨B + 12, 0, none⟩)), (22, .pointer (some ⟨B + 13, 0, none⟩)), (23, .int .i64 2)] (by repeat (first | exact trivial | refine And.intro rfl ?_)) (next CT CC CD 2 _ _ _ _ _ _ _ T C D (.inr (.inr (.inl ⟨rfl, rfl, rfl, rfl, rfl, rfl⟩))) M)
  · refine cT_step 5 (cL_region ?_)
    refine L_run 65 (.int .u8 a4) M (fun w M => ex_move _) ?_
    refine L_run 66 (.int .u8 3) M (fun w M => ex_bin (.int .u8 a4) (.int .u8 4) (.int .u8 3) (gdi _ _ _ _ _ _ _ w) (rem8 a4 4 3 (by decide) h4 w)) ?_
    refine L_run 67 (.int .i64 3) M (fun w M => by kernel_rfl) ?_
    refine L_run 23 (.int .i64 3) M (fun w M => ex_move _) ?_
    refine L_nil (show cT 6 _ _ _ from ?_)
    refine cT_step 6 (cL_seq (cL_region ?_))
    refine L_run 68 (.int .i64 3) M (fun w M => ex_move _) ?_
    refine L_nil (show cL _ _ _ _ _ from ?_)
    refine cL_block ?_
    refine cL_seq (cL_region ?_)
    refine L_run 78 (.bool false) M (fun w M => ex_bin (.int .i64 3) (.int .i64 0) (.bool false) (gdi _ _ _ _ _ _ _ w) (by kernel_rfl)) ?_
    refine L_run 77 (.bool false) M (fun w M => ex_move _) ?_
    refine L_nil (show cL _ _ _ _ _ from ?_)
    refine cL_if false rfl ?_
    refine cL_seq (cL_region ?_)
    refine L_run 90 (.bool false) M (fun w M => ex_bin (.int .i64 3) (.int .i64 1) (.bool false) (gdi _ _ _ _ _ _ _ w) (by kernel_rfl)) ?_
    refine L_run 89 (.bool false) M (fun w M => ex_move _) ?_
    refine L_nil (show cL _ _ _ _ _ from ?_)
    refine cL_if false rfl ?_
    refine cL_seq (cL_region ?_)
    refine L_run 102 (.bool false) M (fun w M => ex_bin (.int .i64 3) (.int .i64 2) (.bool false) (gdi _ _ _ _ _ _ _ w) (by kernel_rfl)) ?_
    refine L_run 101 (.bool false) M (fun w M => ex_move _) ?_
    refine L_nil (show cL _ _ _ _ _ from ?_)
    refine cL_if false rfl ?_
    refine cL_seq (cL_region ?_)
    refine L_run 69 (.pointer (some ⟨B + 13, 0, none⟩)) M (fun w M => ex_move _) ?_
    refine L_run 70 (.pointer (some ⟨B + 10, 0, none⟩)) M (fun w M => ex_move _) ?_
    refine L_run 71 (.pointer (some ⟨B + 13, 0, none⟩)) M (fun w M => ex_nil _) ?_
    refine L_run 72 (.pointer (some ⟨B + 13, 0, none⟩)) M (fun w M => ex_field _ _ (fa60_0 (B + 13))) ?_
    refine L_store1 13 0 (.pointer (cc B)) _ 60 M rfl (by simp) size45 ?_; clear M; intro w M
    have M : Mem w0 w B (LA CT CC CD (cc B) none) := M
    refine L_nil (show cL _ _ _ _ _ from ?_)
    refine cL_region ?_
    refine L_run 73 (.pointer (some ⟨B + 13, 0, none⟩)) M (fun w M => ex_move _) ?_
    refine L_run 74 (.pointer (some ⟨B + 10, 0, none⟩)) M (fun w M => ex_move _) ?_
    refine L_run 75 (.pointer (some ⟨B + 13, 0, none⟩)) M (fun w M => ex_nil _) ?_
    refine L_run 76 (.pointer (some ⟨B + 13, 1, none⟩)) M (fun w M => ex_field _ _ (fa60_1 (B + 13))) ?_
    refine L_store1 13 1 (.pointer (cc B)) _ 60 M rfl (by simp) size45 ?_; clear M; intro w M
    have M : Mem w0 w B (LA CT CC CD (cc B) (cc B)) := M
    refine L_nil (show cT 7 _ _ _ from ?_)
    exact cL_as [(0, .int .u64 a0), (1, .string a1), (2, .string a2), (3, .bool a3), (4, .int .u8 a4), (5, .bool a5), (6, .int .u8 a6), (7, .bool a7), (8, .int .u64 a8), (19, .pointer (some ⟨B + 8, 0, none⟩)), (20, .pointer (some ⟨B + 10, 0, none⟩)), (21, .pointer (some ⟨B + 12, 0, none⟩)), (22, .pointer (some ⟨B + 13, 0, none⟩)), (23, .int .i64 3)] (by repeat (first | exact trivial | refine And.intro rfl ?_)) (next CT CC CD 3 _ _ _ _ _ _ _ T C D (.inr (.inr (.inr ⟨rfl, rfl, rfl, rfl, rfl, rfl⟩))) M)
end Go.Proofs.Ybulkdufc
