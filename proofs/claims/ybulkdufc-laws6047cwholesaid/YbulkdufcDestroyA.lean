/-
  '(*Table).destroy': the walk.
-/
import Derived.Test.YbulkdufcDestroy
namespace Go.Proofs.Ybulkdufc
open Go.RowKit Go.Split
open Extern.Stop (cell)
theorem cmp_of {w0 w : World} {B : Nat} {L : List Obj} (hM : Mem w0 w B L) {CC CD : Array Value} (hc : L[10]? = some (.cells CC 57 (0, 0))) (hd : L[12]? = some (.cells CD 57 (0, 0))) {p : Option Addr} (hp : p = none ∨ p = some ⟨B + 12, 0, none⟩) :
    (binOp .eql 45 (.pointer (some ⟨B + 10, 0, none⟩)) (.pointer p)).run Yba.prog w = .ok (.bool false) w := by
  rcases hp with rfl | rfl
  · exact eql45 (fun d => eq45_nil2 d _ _)
  · exact eql45 (fun d => eq45_diff d (fun h => absurd (congrArg Addr.block h) (by simp)) (hM.get hc) (hM.get hd))
theorem cmp_same {w : World} {B : Nat} : (binOp .eql 45 (.pointer (some ⟨B + 10, 0, none⟩)) (.pointer (some ⟨B + 10, 0, none⟩))).run Yba.prog w = .ok (.bool true) w := eql45 (fun d => eq45_same d _ _)

set_option maxRecDepth 100000 in
set_option maxHeartbeats 2000000 in
theorem destroy_conf (w0 w : World) (B : Nat) (id : Int) (ow : ByteArray) (m0 : Bool) (jo c i : Nat) (es es1 : Array MapEntry) (p : Option Addr) (L : List Obj) (hM : Mem w0 w B L) (D : DPre L B id ow m0 jo c i es (some ⟨B + 10, 0, none⟩) p) (Post : World → Prop)
    (hes : es1 = if p.isNone then es.eraseIdxIfInBounds i else es)
    (hrem : ∀ w1, Mem w0 w1 B ((L.set 13 (.cells #[.pointer none, .pointer p] 60 (0, 0))).set jo (.map es1 c)) → Calls Yba.prog 6 #[.pointer (some ⟨B + 8, 0, none⟩), .pointer (some ⟨B + 10, 0, none⟩)] w1 fun r w2 => r = .returned (.tuple #[]) ∧ Post w2) :
    Calls Yba.prog 5 #[.pointer (some ⟨B + 8, 0, none⟩), .pointer (some ⟨B + 10, 0, none⟩)] w fun r w2 => r = .returned (.tuple #[]) ∧ Post w2 := by
  obtain ⟨CT, hT, T⟩ := D.tab
  obtain ⟨CC, hC, C⟩ := D.cli
  have l13 := (List.getElem?_eq_some_iff.1 D.o).1
  have jo13 : jo ≠ 13 := by have := D.hjo; split at this <;> omega
  have hM1 : ∀ w1, Mem w0 w1 B (L.set 13 ((Obj.cells (#[Value.pointer (some ⟨B + 10, 0, none⟩), .pointer p].setIfInBounds 0 (.pointer none)) 60 (0, 0)))) → Mem w0 w1 B (L.set 13 (.cells #[.pointer none, .pointer p] 60 (0, 0))) := fun w1 h => h
  have o1 : (L.set 13 (.cells #[.pointer none, .pointer p] 60 (0, 0)))[13]? = some (.cells #[.pointer none, .pointer p] 60 (0, 0)) := by rw [List.getElem?_set_self l13]
  have k10 : (L.set 13 (.cells #[.pointer none, .pointer p] 60 (0, 0)))[10]? = some (.cells CC 57 (0, 0)) := by rw [List.getElem?_set_ne (by omega)]; exact hC
  have kjo : (L.set 13 (.cells #[.pointer none, .pointer p] 60 (0, 0)))[jo]? = some (.map es c) := by rw [List.getElem?_set_ne (fun e => jo13 e.symm)]; exact D.owners
  have HES : Hid _ := hes
  clear hes
  cases m0 with
  | false =>
    obtain rfl : jo = 1 := by simpa using D.hjo
    cases p with
    | none =>
      go_enter Yba.func5, Yba.ntmps5
      go_wp2_with (first
        | (refine at_op (.load 25 (.tmp 8)) rfl ?_; refine m_load1 rfl 25 (.tmp 8) rfl 8 13 CT 44 (0, 0) (.map (some (B + 1))) rfl hM hT T.owners _ Yba.underlying25 rfl ?_)
        | (refine at_op (.load 4 (.tmp 12)) rfl ?_; refine m_load1 rfl 4 (.tmp 12) rfl 10 11 CC 57 (0, 0) (.bool false) rfl hM hC C.minor0 _ Yba.underlying4 rfl ?_)
        | (refine at_op (.load 9 (.tmp 21)) rfl ?_; refine m_load1 rfl 9 (.tmp 21) rfl 10 1 CC 57 (0, 0) (.string ow) rfl hM hC C.owner _ Yba.underlying9 rfl ?_)
        | (refine at_op (.lookup 25 (.tmp 18) (.tmp 22) false) rfl ?_; refine m_lookup rfl 25 9 _ (.tmp 18) (.tmp 22) false rfl 1 c es (.string ow) (.pointer (some ⟨B + 13, 0, none⟩)) rfl rfl hM D.owners Yba.underlying25 (fun b w => ck9 ow b w) i D.find ?_; refine (show wpList _ _ _ _ (Act.put _ _ (.pointer (some ⟨B + 13, 0, none⟩))) _ from ?_))
        | (refine at_op (.load 45 (.tmp 28)) rfl ?_; refine m_load1 rfl 45 (.tmp 28) rfl 13 0 _ 60 (0, 0) (.pointer (some ⟨B + 10, 0, none⟩)) rfl hM D.o rfl _ under45 rfl ?_)
        | (refine at_op (.binOp .eql 45 (.tmp 24) (.tmp 29) 45) rfl ?_; refine wl_bin rfl .eql 45 (.tmp 24) (.tmp 29) 45 rfl (.pointer (some ⟨B + 10, 0, none⟩)) (.pointer (some ⟨B + 10, 0, none⟩)) (.bool true) rfl rfl (gd45 _ _ _ _ _ _ (.inl rfl)) cmp_same ?_)
        | (refine at_op (.store 45 (.tmp 33) (.const (.pointer none))) rfl ?_; refine m_store1 rfl 45 (.tmp 33) (.const (.pointer none)) rfl 13 0 (.pointer none) _ 60 rfl rfl hM D.o (by simp) size45 rfl ?_; intro w1 M1'; have M1 := hM1 _ M1')
        | (refine at_op (.load 45 (.tmp 45)) rfl ?_; refine m_load1 rfl 45 (.tmp 45) rfl 13 0 _ 60 (0, 0) (.pointer none) rfl M1 o1 rfl _ under45 rfl ?_)
        | (refine at_op (.binOp .eql 45 (.tmp 46) (.const (.pointer none)) 45) rfl ?_; refine wl_bin rfl .eql 45 (.tmp 46) (.const (.pointer none)) 45 rfl (.pointer none) (.pointer none) (.bool true) rfl rfl (gd45 _ _ _ _ _ _ (.inl rfl)) (nilcmp none _) ?_)
        | (refine at_op (.load 45 (.tmp 51)) rfl ?_; refine m_load1 rfl 45 (.tmp 51) rfl 13 1 _ 60 (0, 0) (.pointer none) rfl M1 o1 rfl _ under45 rfl ?_)
        | (refine at_op (.binOp .eql 45 (.tmp 52) (.const (.pointer none)) 45) rfl ?_; refine wl_bin rfl .eql 45 (.tmp 52) (.const (.pointer none)) 45 rfl (.pointer none) (.pointer none) (.bool true) rfl rfl (gd45 _ _ _ _ _ _ (.inl rfl)) (nilcmp none _) ?_)
        | (refine at_op (.load 9 (.tmp 58)) rfl ?_; refine m_load1 rfl 9 (.tmp 58) rfl 10 1 CC 57 (0, 0) (.string ow) rfl M1 k10 C.owner _ Yba.underlying9 rfl ?_)
        | (refine at_op (.call { callee := .builtin .delete, args := #[.tmp 55, .tmp 59], argTypes := #[25, 9] }) rfl ?_; refine m_delete rfl 25 9 _ 9 (.tmp 55) (.tmp 59) rfl 1 c es (.string ow) rfl rfl M1 kjo Yba.underlying25 (fun b w => ck9 ow b w) _ D.find es1 (by rw [HES.out]; rfl) ?_; intro w2 M2)
        | (go_at_call 6; refine (hrem w2 M2).mono ?_; rintro _ w3 ⟨rfl, hP⟩))
      go_end0
      exact ⟨rfl, hP⟩
    | some a =>
      go_enter Yba.func5, Yba.ntmps5
      go_wp2_with (first
        | (refine at_op (.load 25 (.tmp 8)) rfl ?_; refine m_load1 rfl 25 (.tmp 8) rfl 8 13 CT 44 (0, 0) (.map (some (B + 1))) rfl hM hT T.owners _ Yba.underlying25 rfl ?_)
        | (refine at_op (.load 4 (.tmp 12)) rfl ?_; refine m_load1 rfl 4 (.tmp 12) rfl 10 11 CC 57 (0, 0) (.bool false) rfl hM hC C.minor0 _ Yba.underlying4 rfl ?_)
        | (refine at_op (.load 9 (.tmp 21)) rfl ?_; refine m_load1 rfl 9 (.tmp 21) rfl 10 1 CC 57 (0, 0) (.string ow) rfl hM hC C.owner _ Yba.underlying9 rfl ?_)
        | (refine at_op (.lookup 25 (.tmp 18) (.tmp 22) false) rfl ?_; refine m_lookup rfl 25 9 _ (.tmp 18) (.tmp 22) false rfl 1 c es (.string ow) (.pointer (some ⟨B + 13, 0, none⟩)) rfl rfl hM D.owners Yba.underlying25 (fun b w => ck9 ow b w) i D.find ?_; refine (show wpList _ _ _ _ (Act.put _ _ (.pointer (some ⟨B + 13, 0, none⟩))) _ from ?_))
        | (refine at_op (.load 45 (.tmp 28)) rfl ?_; refine m_load1 rfl 45 (.tmp 28) rfl 13 0 _ 60 (0, 0) (.pointer (some ⟨B + 10, 0, none⟩)) rfl hM D.o rfl _ under45 rfl ?_)
        | (refine at_op (.binOp .eql 45 (.tmp 24) (.tmp 29) 45) rfl ?_; refine wl_bin rfl .eql 45 (.tmp 24) (.tmp 29) 45 rfl (.pointer (some ⟨B + 10, 0, none⟩)) (.pointer (some ⟨B + 10, 0, none⟩)) (.bool true) rfl rfl (gd45 _ _ _ _ _ _ (.inl rfl)) cmp_same ?_)
        | (refine at_op (.store 45 (.tmp 33) (.const (.pointer none))) rfl ?_; refine m_store1 rfl 45 (.tmp 33) (.const (.pointer none)) rfl 13 0 (.pointer none) _ 60 rfl rfl hM D.o (by simp) size45 rfl ?_; intro w1 M1'; have M1 := hM1 _ M1')
        | (refine at_op (.load 45 (.tmp 45)) rfl ?_; refine m_load1 rfl 45 (.tmp 45) rfl 13 0 _ 60 (0, 0) (.pointer none) rfl M1 o1 rfl _ under45 rfl ?_)
        | (refine at_op (.binOp .eql 45 (.tmp 46) (.const (.pointer none)) 45) rfl ?_; refine wl_bin rfl .eql 45 (.tmp 46) (.const (.pointer none)) 45 rfl (.pointer none) (.pointer none) (.bool true) rfl rfl (gd45 _ _ _ _ _ _ (.inl rfl)) (nilcmp none _) ?_)
        | (refine at_op (.load 45 (.tmp 51)) rfl ?_; refine m_load1 rfl 45 (.tmp 51) rfl 13 1 _ 60 (0, 0) (.pointer (some a)) rfl M1 o1 rfl _ under45 rfl ?_)
        | (refine at_op (.binOp .eql 45 (.tmp 52) (.const (.pointer none)) 45) rfl ?_; refine wl_bin rfl .eql 45 (.tmp 52) (.const (.pointer none)) 45 rfl (.pointer (some a)) (.pointer none) (.bool false) rfl rfl (gd45 _ _ _ _ _ _ (.inl rfl)) (nilcmp (some a) _) ?_)
        | (go_at_call 6; refine (hrem w1 (by rw [show es1 = es from HES.out, set_same kjo]; exact M1)).mono ?_; rintro _ w3 ⟨rfl, hP⟩))
      go_end0
      exact ⟨rfl, hP⟩
  | true =>
    obtain rfl : jo = 2 := by simpa using D.hjo
    cases p with
    | none =>
      go_enter Yba.func5, Yba.ntmps5
      go_wp2_with (first
        | (refine at_op (.load 25 (.tmp 8)) rfl ?_; refine m_load1 rfl 25 (.tmp 8) rfl 8 13 CT 44 (0, 0) (.map (some (B + 1))) rfl hM hT T.owners _ Yba.underlying25 rfl ?_)
        | (refine at_op (.load 25 (.tmp 16)) rfl ?_; refine m_load1 rfl 25 (.tmp 16) rfl 8 14 CT 44 (0, 0) (.map (some (B + 2))) rfl hM hT T.owners40 _ Yba.underlying25 rfl ?_)
        | (refine at_op (.load 4 (.tmp 12)) rfl ?_; refine m_load1 rfl 4 (.tmp 12) rfl 10 11 CC 57 (0, 0) (.bool true) rfl hM hC C.minor0 _ Yba.underlying4 rfl ?_)
        | (refine at_op (.load 9 (.tmp 21)) rfl ?_; refine m_load1 rfl 9 (.tmp 21) rfl 10 1 CC 57 (0, 0) (.string ow) rfl hM hC C.owner _ Yba.underlying9 rfl ?_)
        | (refine at_op (.lookup 25 (.tmp 18) (.tmp 22) false) rfl ?_; refine m_lookup rfl 25 9 _ (.tmp 18) (.tmp 22) false rfl 2 c es (.string ow) (.pointer (some ⟨B + 13, 0, none⟩)) rfl rfl hM D.owners Yba.underlying25 (fun b w => ck9 ow b w) i D.find ?_; refine (show wpList _ _ _ _ (Act.put _ _ (.pointer (some ⟨B + 13, 0, none⟩))) _ from ?_))
        | (refine at_op (.load 45 (.tmp 28)) rfl ?_; refine m_load1 rfl 45 (.tmp 28) rfl 13 0 _ 60 (0, 0) (.pointer (some ⟨B + 10, 0, none⟩)) rfl hM D.o rfl _ under45 rfl ?_)
        | (refine at_op (.binOp .eql 45 (.tmp 24) (.tmp 29) 45) rfl ?_; refine wl_bin rfl .eql 45 (.tmp 24) (.tmp 29) 45 rfl (.pointer (some ⟨B + 10, 0, none⟩)) (.pointer (some ⟨B + 10, 0, none⟩)) (.bool true) rfl rfl (gd45 _ _ _ _ _ _ (.inl rfl)) cmp_same ?_)
        | (refine at_op (.store 45 (.tmp 33) (.const (.pointer none))) rfl ?_; refine m_store1 rfl 45 (.tmp 33) (.const (.pointer none)) rfl 13 0 (.pointer none) _ 60 rfl rfl hM D.o (by simp) size45 rfl ?_; intro w1 M1'; have M1 := hM1 _ M1')
        | (refine at_op (.load 45 (.tmp 45)) rfl ?_; refine m_load1 rfl 45 (.tmp 45) rfl 13 0 _ 60 (0, 0) (.pointer none) rfl M1 o1 rfl _ under45 rfl ?_)
        | (refine at_op (.binOp .eql 45 (.tmp 46) (.const (.pointer none)) 45) rfl ?_; refine wl_bin rfl .eql 45 (.tmp 46) (.const (.pointer none)) 45 rfl (.pointer none) (.pointer none) (.bool true) rfl rfl (gd45 _ _ _ _ _ _ (.inl rfl)) (nilcmp none _) ?_)
        | (refine at_op (.load 45 (.tmp 51)) rfl ?_; refine m_load1 rfl 45 (.tmp 51) rfl 13 1 _ 60 (0, 0) (.pointer none) rfl M1 o1 rfl _ under45 rfl ?_)
        | (refine at_op (.binOp .eql 45 (.tmp 52) (.const (.pointer none)) 45) rfl ?_; refine wl_bin rfl .eql 45 (.tmp 52) (.const (.pointer none)) 45 rfl (.pointer none) (.pointer none) (.bool true) rfl rfl (gd45 _ _ _ _ _ _ (.inl rfl)) (nilcmp none _) ?_)
        | (refine at_op (.load 9 (.tmp 58)) rfl ?_; refine m_load1 rfl 9 (.tmp 58) rfl 10 1 CC 57 (0, 0) (.string ow) rfl M1 k10 C.owner _ Yba.underlying9 rfl ?_)
        | (refine at_op (.call { callee := .builtin .delete, args := #[.tmp 55, .tmp 59], argTypes := #[25, 9] }) rfl ?_; refine m_delete rfl 25 9 _ 9 (.tmp 55) (.tmp 59) rfl 2 c es (.string ow) rfl rfl M1 kjo Yba.underlying25 (fun b w => ck9 ow b w) _ D.find es1 (by rw [HES.out]; rfl) ?_; intro w2 M2)
        | (go_at_call 6; refine (hrem w2 M2).mono ?_; rintro _ w3 ⟨rfl, hP⟩))
      go_end0
      exact ⟨rfl, hP⟩
    | some a =>
      go_enter Yba.func5, Yba.ntmps5
      go_wp2_with (first
        | (refine at_op (.load 25 (.tmp 8)) rfl ?_; refine m_load1 rfl 25 (.tmp 8) rfl 8 13 CT 44 (0, 0) (.map (some (B + 1))) rfl hM hT T.owners _ Yba.underlying25 rfl ?_)
        | (refine at_op (.load 25 (.tmp 16)) rfl ?_; refine m_load1 rfl 25 (.tmp 16) rfl 8 14 CT 44 (0, 0) (.map (some (B + 2))) rfl hM hT T.owners40 _ Yba.underlying25 rfl ?_)
        | (refine at_op (.load 4 (.tmp 12)) rfl ?_; refine m_load1 rfl 4 (.tmp 12) rfl 10 11 CC 57 (0, 0) (.bool true) rfl hM hC C.minor0 _ Yba.underlying4 rfl ?_)
        | (refine at_op (.load 9 (.tmp 21)) rfl ?_; refine m_load1 rfl 9 (.tmp 21) rfl 10 1 CC 57 (0, 0) (.string ow) rfl hM hC C.owner _ Yba.underlying9 rfl ?_)
        | (refine at_op (.lookup 25 (.tmp 18) (.tmp 22) false) rfl ?_; refine m_lookup rfl 25 9 _ (.tmp 18) (.tmp 22) false rfl 2 c es (.string ow) (.pointer (some ⟨B + 13, 0, none⟩)) rfl rfl hM D.owners Yba.underlying25 (fun b w => ck9 ow b w) i D.find ?_; refine (show wpList _ _ _ _ (Act.put _ _ (.pointer (some ⟨B + 13, 0, none⟩))) _ from ?_))
        | (refine at_op (.load 45 (.tmp 28)) rfl ?_; refine m_load1 rfl 45 (.tmp 28) rfl 13 0 _ 60 (0, 0) (.pointer (some ⟨B + 10, 0, none⟩)) rfl hM D.o rfl _ under45 rfl ?_)
        | (refine at_op (.binOp .eql 45 (.tmp 24) (.tmp 29) 45) rfl ?_; refine wl_bin rfl .eql 45 (.tmp 24) (.tmp 29) 45 rfl (.pointer (some ⟨B + 10, 0, none⟩)) (.pointer (some ⟨B + 10, 0, none⟩)) (.bool true) rfl rfl (gd45 _ _ _ _ _ _ (.inl rfl)) cmp_same ?_)
        | (refine at_op (.store 45 (.tmp 33) (.const (.pointer none))) rfl ?_; refine m_store1 rfl 45 (.tmp 33) (.const (.pointer none)) rfl 13 0 (.pointer none) _ 60 rfl rfl hM D.o (by simp) size45 rfl ?_; intro w1 M1'; have M1 := hM1 _ M1')
        | (refine at_op (.load 45 (.tmp 45)) rfl ?_; refine m_load1 rfl 45 (.tmp 45) rfl 13 0 _ 60 (0, 0) (.pointer none) rfl M1 o1 rfl _ under45 rfl ?_)
        | (refine at_op (.binOp .eql 45 (.tmp 46) (.const (.pointer none)) 45) rfl ?_; refine wl_bin rfl .eql 45 (.tmp 46) (.const (.pointer none)) 45 rfl (.pointer none) (.pointer none) (.bool true) rfl rfl (gd45 _ _ _ _ _ _ (.inl rfl)) (nilcmp none _) ?_)
        | (refine at_op (.load 45 (.tmp 51)) rfl ?_; refine m_load1 rfl 45 (.tmp 51) rfl 13 1 _ 60 (0, 0) (.pointer (some a)) rfl M1 o1 rfl _ under45 rfl ?_)
        | (refine at_op (.binOp .eql 45 (.tmp 52) (.const (.pointer none)) 45) rfl ?_; refine wl_bin rfl .eql 45 (.tmp 52) (.const (.pointer none)) 45 rfl (.pointer (some a)) (.pointer none) (.bool false) rfl rfl (gd45 _ _ _ _ _ _ (.inl rfl)) (nilcmp (some a) _) ?_)
        | (go_at_call 6; refine (hrem w1 (by rw [show es1 = es from HES.out, set_same kjo]; exact M1)).mono ?_; rintro _ w3 ⟨rfl, hP⟩))
      go_end0
      exact ⟨rfl, hP⟩
end Go.Proofs.Ybulkdufc
