/-
  '(*Table).unlink', as endSession calls it: the session's one connection, which another session shares.
-/
import Derived.Test.YbulkdufcParts
namespace Go.Proofs.Ybulkdufc
open Go.RowKit Go.Split
open Extern.Stop (cell)

theorem size63 : (Yba.prog.info? 63).map (·.size) = some 16 := by kernel_rfl
def ent (k v : Value) (b : Nat) : MapEntry := { key := k, val := v, born := b }
/-- The memory that unlink meets. -/
structure UPre (L : List Obj) (B : Nat) (js jc ji b : Nat) (conn : Int) (c : Addr) : Prop where
  tab : ∃ CT, L[8]? = some (.cells CT 44 (0, 0)) ∧ Tab CT B
  ses : ∃ CS, L[js]? = some (.cells CS 73 (0, 0)) ∧ Ses CS 1 c (B + jc)
  conns : L[jc]? = some (.map #[ent (.int .u64 conn) (.pointer none) 0] 1)
  tconns : L[4]? = some (.map #[ent (.int .u64 conn) (.map (some (B + ji))) 0] 1)
  inner : ∃ es i, L[ji]? = some (.map es 2) ∧ (∀ w : World, (Instr.findKey 63 (.agg (kc (sid 1))) es.toList).run Yba.prog w = .ok (some (i, .agg #[])) w) ∧ struck es (some (i, .agg #[])) = #[ent (.agg (kc (sid 2))) (.agg #[]) b]
  ne1 : jc ≠ 8
  ne2 : jc ≠ js
  ne3 : jc ≠ 4
  ne4 : jc ≠ ji
set_option maxRecDepth 100000 in
set_option maxHeartbeats 1000000 in
theorem unlink_any (w0 w : World) (B js jc ji b : Nat) (conn : Int) (c : Addr) (L : List Obj) (hM : Mem w0 w B L) (U : UPre L B js jc ji b conn c) :
    Calls Yba.prog 10 #[.pointer (some ⟨B + 8, 0, none⟩), .pointer (some ⟨B + js, 0, none⟩), .int .u64 conn] w fun r w1 => r = .returned (.tuple #[]) ∧ Mem w0 w1 B ((L.set jc (.map #[] 1)).set ji (.map #[ent (.agg (kc (sid 2))) (.agg #[]) b] 2)) := by
  obtain ⟨CT, hT, T⟩ := U.tab
  obtain ⟨CS, hS, S⟩ := U.ses
  have g8 : (L.set jc (.map #[] 1))[8]? = some (.cells CT 44 (0, 0)) := by rw [List.getElem?_set_ne U.ne1]; exact hT
  have gs : (L.set jc (.map #[] 1))[js]? = some (.cells CS 73 (0, 0)) := by rw [List.getElem?_set_ne U.ne2]; exact hS
  have g4 := (List.getElem?_set_ne (a := Obj.map #[] 1) U.ne3).trans U.tconns
  obtain ⟨es, ii, hin, f3, e3'⟩ := U.inner
  have e3 : Hid _ := e3'
  clear e3'
  have gi := (List.getElem?_set_ne (a := Obj.map #[] 1) U.ne4).trans hin
  have f1 : ∀ w : World, (Instr.findKey 64 (.int .u64 conn) (#[ent (.int .u64 conn) (.pointer none) 0] : Array MapEntry).toList).run Yba.prog w = .ok (some (0, .pointer none)) w := fun w => find_hit w Yba.underlying64 _ _ _ _ (same_int conn)
  have e1 : struck #[ent (.int .u64 conn) (.pointer none) 0] (some (0, .pointer none)) = #[] := by simp [struck]
  have f2 : ∀ w : World, (Instr.findKey 64 (.int .u64 conn) (#[ent (.int .u64 conn) (.map (some (B + ji))) 0] : Array MapEntry).toList).run Yba.prog w = .ok (some (0, .map (some (B + ji)))) w := fun w => find_hit w Yba.underlying64 _ _ _ _ (same_int conn)
  go_enter Yba.func10, Yba.ntmps10
  go_wp2_with (first
    | (refine at_op (.load 66 (.tmp 9)) rfl ?_; refine m_load1 rfl 66 (.tmp 9) rfl js 23 CS 73 (0, 0) (.map (some (B + jc))) rfl hM hS S.conns _ Yba.underlying66 rfl ?_)
    | (refine at_op (.call { callee := .builtin .delete, args := #[.tmp 10, .tmp 11], argTypes := #[66, 64] }) rfl ?_; refine m_delete rfl 66 64 _ 64 (.tmp 10) (.tmp 11) rfl jc 1 #[ent (.int .u64 conn) (.pointer none) 0] (.int .u64 conn) rfl rfl hM U.conns Yba.underlying66 (fun b w => ck64 conn b w) (some (0, .pointer none)) f1 #[] e1 ?_; intro w1 M1)
    | (refine at_op (.load 27 (.tmp 14)) rfl ?_; refine m_load1 rfl 27 (.tmp 14) rfl 8 16 CT 44 (0, 0) (.map (some (B + 4))) rfl M1 g8 T.conns _ Yba.underlying27 rfl ?_)
    | (refine at_op (.lookup 27 (.tmp 15) (.tmp 16) false) rfl ?_; refine m_lookup rfl 27 64 _ (.tmp 15) (.tmp 16) false rfl 4 1 #[ent (.int .u64 conn) (.map (some (B + ji))) 0] (.int .u64 conn) (.map (some (B + ji))) rfl rfl M1 g4 Yba.underlying27 (fun b w => ck64 conn b w) 0 f2 ?_; refine (show wpList _ _ _ _ (Act.put _ _ (.map (some (B + ji)))) _ from ?_))
    | (refine at_op (.load 63 (.tmp 21)) rfl ?_; refine wl_load_agg rfl 63 (.tmp 21) rfl (B + js) 0 16 CS 73 (0, 0) rfl (M1.get gs) (by rw [S.size]; decide) _ Yba.underlying63 rfl size63 ?_; rw [S.id])
    | (refine at_op (.call { callee := .builtin .delete, args := #[.tmp 18, .tmp 22], argTypes := #[74, 63] }) rfl ?_; refine m_delete rfl 74 63 _ 63 (.tmp 18) (.tmp 22) rfl ji 2 es (.agg (kc (sid 1))) rfl rfl M1 gi Yba.underlying74 (fun b w => ck63 1 b w) (some (ii, .agg #[])) f3 #[ent (.agg (kc (sid 2))) (.agg #[]) b] e3.out ?_; intro w2 M2)
    | (refine at_op (.call { callee := .builtin .len, args := #[.tmp 23], argTypes := #[74] }) rfl ?_; refine m_len rfl 74 63 _ (.tmp 23) rfl ji 2 #[ent (.agg (kc (sid 2))) (.agg #[]) b] rfl M2 (by have := (List.getElem?_eq_some_iff.1 gi).1; simp at this; simp [this]) Yba.underlying74 1 rfl ?_))
  go_end0
  exact ⟨rfl, M2⟩
end Go.Proofs.Ybulkdufc
