/-
  '(*Table).endSession' of the client's one session.
-/
import Derived.Test.YbulkdufcIter
namespace Go.Proofs.Ybulkdufc
open Go.RowKit Go.Split
open Extern.Stop (cell)
theorem mixed : Yba.prog.follows .mixedOrders = true := by kernel_rfl

theorem UPre.frame {L L1 : List Obj} {B js jc ji b : Nat} {conn : Int} {c : Addr} (U : UPre L B js jc ji b conn c) (h : ∀ k, k = 8 ∨ k = js ∨ k = jc ∨ k = 4 ∨ k = ji → L1[k]? = L[k]?) : UPre L1 B js jc ji b conn c := by
  obtain ⟨CT, hT, T⟩ := U.tab
  obtain ⟨CS, hS, S⟩ := U.ses
  obtain ⟨es, ii, hin, hf, he⟩ := U.inner
  exact ⟨⟨CT, (h 8 (by simp)).trans hT, T⟩, ⟨CS, (h js (by simp)).trans hS, S⟩, (h jc (by simp)).trans U.conns, (h 4 (by simp)).trans U.tconns, ⟨es, ii, (h ji (by simp)).trans hin, hf, he⟩, U.ne1, U.ne2, U.ne3, U.ne4⟩
/-- How many entries the map at r holds. -/
def count (w : World) (r : Nat) : Nat := match w.heap[r]? with
  | some (.map es _) => es.size
  | _ => 0
theorem count_of {w : World} {r c : Nat} {es : Array MapEntry} (h : w.heap[r]? = some (.map es c)) : count w r = es.size := by simp [count, h]
/-- What unlink leaves. -/
def unl (L : List Obj) (jc ji b : Nat) : List Obj := (L.set jc (.map #[] 1)).set ji (.map #[ent (.agg (kc (sid 2))) (.agg #[]) b] 2)
/-- The memory that endSession meets. -/
structure EPre (L : List Obj) (B : Nat) (js jc ji b : Nat) (conn : Int) (s2 : Addr) : Prop where
  U : UPre L B js jc ji b conn ⟨B + 10, 0, none⟩
  sess : L[3]? = some (.map #[ent (.agg (kc (sid 1))) (.pointer (some ⟨B + js, 0, none⟩)) 0, ent (.agg (kc (sid 2))) (.pointer (some s2)) 1] 2)
  csess : L[9]? = some (.map #[ent (.agg (kc (sid 1))) (.pointer (some ⟨B + js, 0, none⟩)) 0] 1)
  cli : ∃ CC id ow m0, L[10]? = some (.cells CC 57 (0, 0)) ∧ Cli CC id ow m0 (B + 9)
  far : 12 < js ∧ 12 < jc ∧ 12 < ji
  ne5 : ji ≠ js
/-- What endSession leaves. -/
def ended (L : List Obj) (B jc ji b : Nat) (s2 : Addr) : List Obj :=
  ((unl (L ++ [.mapIter (some (B + jc)) 1 #[0] 1]) jc ji b).set 3 (.map #[ent (.agg (kc (sid 2))) (.pointer (some s2)) 1] 2)).set 9 (.map #[] 1)
theorem ld63 {w : World} {b : Nat} {CS : Array Value} {t : TypeId} {fr : Nat × Nat} {x : UInt8} {c : Addr} {cs : Nat} (hb : w.heap[b]? = some (.cells CS t fr)) (S : Ses CS x c cs) : (Instr.loadAt 63 (.pointer (some ⟨b, 0, none⟩))).run Yba.prog w = .ok (.agg (kc (sid x))) w := by
  have h2 : w.rangeAt b 0 (kc (sid x)).toList := by
    have := World.rangeAt_of_block hb 0 16
    rwa [S.id] at this
  have := run_loadAt_mid (P := Yba.prog) w b 0 63 (kc (sid x)).toList _ h2 Yba.underlying63 rfl (by rw [size63]; simp [kc, sid])
  simpa using this

set_option maxRecDepth 100000 in
set_option maxHeartbeats 2000000 in
theorem end_any (w0 w : World) (B js jc ji b : Nat) (conn : Int) (s2 : Addr) (L : List Obj) (hM : Mem w0 w B L) (E : EPre L B js jc ji b conn s2) :
    Calls Yba.prog 7 #[.pointer (some ⟨B + 8, 0, none⟩), .pointer (some ⟨B + js, 0, none⟩)] w fun r w1 => r = .returned (.tuple #[]) ∧ Mem w0 w1 B (ended L B jc ji b s2) := by
  obtain ⟨CS, hS, S⟩ := E.U.ses
  have ljs := (List.getElem?_eq_some_iff.1 hS).1
  have ljc := (List.getElem?_eq_some_iff.1 E.U.conns).1
  have lji : ji < L.length := by obtain ⟨_, _, hin, _, _⟩ := E.U.inner; exact (List.getElem?_eq_some_iff.1 hin).1
  obtain ⟨far1, far2, far3⟩ := E.far
  obtain ⟨n, hn⟩ : ∃ n, L.length = n := ⟨_, rfl⟩
  have hap : ∀ (o : Obj) k, k < n → (L ++ [o])[k]? = L[k]? := fun o k hk => List.getElem?_append_left (by omega)
  have hst : ∀ (o o' : Obj), (L ++ [o]).set n o' = L ++ [o'] := fun o o' => by rw [← hn]; simp
  have U1 : UPre (L ++ [.mapIter (some (B + jc)) 1 #[0] 1]) B js jc ji b conn ⟨B + 10, 0, none⟩ := E.U.frame (fun k hk => hap _ k (by rcases hk with rfl | rfl | rfl | rfl | rfl <;> omega))
  have c1 := (hap (.mapIter (some (B + jc)) 1 #[] 1) jc (by omega)).trans E.U.conns
  have i1 : (L ++ [.mapIter (some (B + jc)) 1 #[] 1])[n]? = some (.mapIter (some (B + jc)) 1 #[] 1) := by rw [← hn]; simp
  have c2 := (hap (.mapIter (some (B + jc)) 1 #[0] 1) jc (by omega)).trans E.U.conns
  have i2 : (L ++ [.mapIter (some (B + jc)) 1 #[0] 1])[n]? = some (.mapIter (some (B + jc)) 1 #[0] 1) := by rw [← hn]; simp
  have i3 : (unl (L ++ [.mapIter (some (B + jc)) 1 #[0] 1]) jc ji b)[n]? = some (.mapIter (some (B + jc)) 1 #[0] 1) := by
    unfold unl
    rw [List.getElem?_set_ne (by omega), List.getElem?_set_ne (by omega)]; exact i2
  have c3 : (unl (L ++ [.mapIter (some (B + jc)) 1 #[0] 1]) jc ji b)[jc]? = some (.map #[] 1) := by
    unfold unl
    rw [List.getElem?_set_ne E.U.ne4.symm, List.getElem?_set_self (by simp; omega)]
  go_enter Yba.func7, Yba.ntmps7
  go_wp2_with (first
    | (refine at_op (.load 66 (.tmp 7)) rfl ?_; refine m_load1 rfl 66 (.tmp 7) rfl js 23 CS 73 (0, 0) (.map (some (B + jc))) rfl hM hS S.conns _ Yba.underlying66 rfl ?_)
    | (refine at_op (.range 66 (.tmp 8)) rfl ?_; refine m_range rfl 66 64 _ (.tmp 8) rfl jc 1 _ rfl Yba.underlying66 hM E.U.conns n hn ?_; intro w1 M1))
  simp only [Act.put, List.setIfInBounds_toArray, List.set_cons_zero, List.set_cons_succ]
  go_loopw [] (fun wr => Mem w0 wr B (L ++ [.mapIter (some (B + jc)) 1 #[] 1]) ∨ Mem w0 wr B (unl (L ++ [.mapIter (some (B + jc)) 1 #[0] 1]) jc ji b)) (fun wr => count wr (B + jc))
  case atStart => exact .inl M1
  case round =>
    clear M1
    rcases hrel with M | M
    · go_wp2_with (first
        | (refine at_op (.next (.tmp 9) false) rfl ?_; refine m_next_one rfl (.tmp 9) rfl n jc 1 1 1 (ent (.int .u64 conn) (.pointer none) 0) rfl M i1 c1 (by show 0 < 1; omega) ?_; rw [hst]; intro w2 M2)
        | (refine at_op (.entry (.tmp 9)) rfl ?_; refine m_entry rfl (.tmp 9) rfl n jc 1 1 (ent (.int .u64 conn) (.pointer none) 0) rfl M2 i2 c2 ?_; refine (show wpList _ _ _ _ (Act.put _ _ (.tuple #[.int .u64 conn, .pointer none])) _ from ?_))
        | (go_at_call 10; refine (unlink_any w0 w2 B js jc ji b conn ⟨B + 10, 0, none⟩ _ M2 U1).mono ?_; rintro _ w3 ⟨rfl, M3⟩))
      go_roundw
      case rel => exact .inr M3
      case measure => rw [count_of (M3.get c3), count_of (M.get c1)]; simp
    · go_wp2_with (first
        | (refine at_op (.next (.tmp 9) false) rfl ?_; refine m_next_over rfl (.tmp 9) rfl (nx_none _ (M.get i3) (M.get c3)) ?_))
      obtain ⟨LU, hLU⟩ : ∃ LU, LU = unl (L ++ [.mapIter (some (B + jc)) 1 #[0] 1]) jc ji b := ⟨_, rfl⟩
      have gk : ∀ k, k < n → k ≠ jc → k ≠ ji → LU[k]? = L[k]? := fun k h1 h2 h3 => by
        rw [hLU]; unfold unl
        rw [List.getElem?_set_ne (fun e => h3 e.symm), List.getElem?_set_ne (fun e => h2 e.symm)]; exact hap _ k h1
      obtain ⟨CT, hT, T⟩ := E.U.tab
      obtain ⟨CC, id, ow, m0, hC, C⟩ := E.cli
      have g8 := (gk 8 (by omega) (by omega) (by omega)).trans hT
      have gs := (gk js (by omega) (fun e => E.U.ne2 e.symm) (fun e => E.ne5 e.symm)).trans hS
      have g3 := (gk 3 (by omega) (by omega) (by omega)).trans E.sess
      have g9 := (gk 9 (by omega) (by omega) (by omega)).trans E.csess
      have g10 := (gk 10 (by omega) (by omega) (by omega)).trans hC
      have hend : Hid (ended L B jc ji b s2 = (LU.set 3 (.map #[ent (.agg (kc (sid 2))) (.pointer (some s2)) 1] 2)).set 9 (.map #[] 1)) := by
        show _ = _
        rw [hLU]; rfl
      rw [← hLU] at M
      clear hLU i3 c3 i1 i2 c1 c2 U1
      have hc1 : wr.drew.cell? ⟨B + 8, 15, none⟩ = some (.map (some (B + 3))) := (cell_of_row wr (B + 8) 15 _ _ _ (M.get g8)).trans T.sessions
      have l1 : (Instr.loadAt 63 (.pointer (some ⟨B + js, 0, none⟩))).run Yba.prog wr.drew = .ok (.agg (kc (sid 1))) wr.drew := ld63 (w := wr.drew) (M.get gs) S
      refine wp_region_cut mixed [0, 1, 2, 3, 4, 5, 6, 7] 8 [] (by kernel_rfl) (by kernel_rfl) (fun c a d v w h => by cases d <;> exact h) ?_
      simp only [List.filterMap_cons, List.filterMap_nil, List.getElem?_toArray, List.getElem?_cons_zero, List.getElem?_cons_succ]
      refine (show wpQuiet _ _ _ _ [_, _, _, _, _, _, _, _] _ from ?_)
      repeat (first
        | (refine ws_load 63 (.tmp 24) rfl rfl (.pointer (some ⟨B + js, 0, none⟩)) (.agg (kc (sid 1))) rfl l1 ?_; simp only [Act.put, List.setIfInBounds_toArray, List.set_cons_zero, List.set_cons_succ])
        | go_big_quiet_step (fail))
      refine wpQuiet_nil (show wpList _ _ _ [_] _ _ from ?_)
      have f1 : ∀ w : World, (Instr.findKey 63 (.agg (kc (sid 1))) (#[ent (.agg (kc (sid 1))) (.pointer (some ⟨B + js, 0, none⟩)) 0, ent (.agg (kc (sid 2))) (.pointer (some s2)) 1] : Array MapEntry).toList).run Yba.prog w = .ok (some (0, .pointer (some ⟨B + js, 0, none⟩))) w := fun w => findS12 _ _ _ _ w
      have e1 : struck #[ent (.agg (kc (sid 1))) (.pointer (some ⟨B + js, 0, none⟩)) 0, ent (.agg (kc (sid 2))) (.pointer (some s2)) 1] (some (0, .pointer (some ⟨B + js, 0, none⟩))) = #[ent (.agg (kc (sid 2))) (.pointer (some s2)) 1] := by simp [struck, Array.eraseIdxIfInBounds]
      have f2 : ∀ w : World, (Instr.findKey 63 (.agg (kc (sid 1))) (#[ent (.agg (kc (sid 1))) (.pointer (some ⟨B + js, 0, none⟩)) 0] : Array MapEntry).toList).run Yba.prog w = .ok (some (0, .pointer (some ⟨B + js, 0, none⟩))) w := fun w => findS1 1 _ _ (.inl rfl) w
      have e2 : struck #[ent (.agg (kc (sid 1))) (.pointer (some ⟨B + js, 0, none⟩)) 0] (some (0, .pointer (some ⟨B + js, 0, none⟩))) = #[] := by simp [struck]
      clear l1 hc1
      refine m_delete rfl 26 63 _ 63 (.tmp 21) (.tmp 25) rfl 3 2 _ (.agg (kc (sid 1))) rfl rfl M.drew g3 Yba.underlying26 (fun b w => ck63 1 b w) _ f1 _ e1 ?_
      intro w4 M4
      go_wp2
      have k9 : (LU.set 3 (.map #[ent (.agg (kc (sid 2))) (.pointer (some s2)) 1] 2))[9]? = some (.map #[ent (.agg (kc (sid 1))) (.pointer (some ⟨B + js, 0, none⟩)) 0] 1) := by rw [List.getElem?_set_ne (by omega)]; exact g9
      have k10 : (LU.set 3 (.map #[ent (.agg (kc (sid 2))) (.pointer (some s2)) 1] 2))[10]? = some (.cells CC 57 (0, 0)) := by rw [List.getElem?_set_ne (by omega)]; exact g10
      have ks : (LU.set 3 (.map #[ent (.agg (kc (sid 2))) (.pointer (some s2)) 1] 2))[js]? = some (.cells CS 73 (0, 0)) := by rw [List.getElem?_set_ne (by omega)]; exact gs
      have hc2 : w4.drew.cell? ⟨B + js, 16, none⟩ = some (.pointer (some ⟨B + 10, 0, none⟩)) := (cell_of_row w4 (B + js) 16 _ _ _ (M4.get ks)).trans S.client
      have hc3 : w4.drew.cell? ⟨B + 10, 18, none⟩ = some (.map (some (B + 9))) := (cell_of_row w4 (B + 10) 18 _ _ _ (M4.get k10)).trans C.sessions
      have l2 : (Instr.loadAt 63 (.pointer (some ⟨B + js, 0, none⟩))).run Yba.prog w4.drew = .ok (.agg (kc (sid 1))) w4.drew := ld63 (w := w4.drew) (M4.get ks) S
      refine wp_region_cut mixed [0, 1, 2, 3, 4, 5, 6, 7, 8, 9, 10] 11 [] (by kernel_rfl) (by kernel_rfl) (fun c a d v w h => by cases d <;> exact h) ?_
      simp only [List.filterMap_cons, List.filterMap_nil, List.getElem?_toArray, List.getElem?_cons_zero, List.getElem?_cons_succ]
      refine (show wpQuiet _ _ _ _ [_, _, _, _, _, _, _, _, _, _, _] _ from ?_)
      repeat (first
        | (refine ws_load 63 (.tmp 35) rfl rfl (.pointer (some ⟨B + js, 0, none⟩)) (.agg (kc (sid 1))) rfl l2 ?_; simp only [Act.put, List.setIfInBounds_toArray, List.set_cons_zero, List.set_cons_succ])
        | go_big_quiet_step (fail))
      refine wpQuiet_nil (show wpList _ _ _ [_] _ _ from ?_)
      clear l2 hc2 hc3
      refine m_delete rfl 26 63 _ 63 (.tmp 32) (.tmp 36) rfl 9 1 _ (.agg (kc (sid 1))) rfl rfl M4.drew k9 Yba.underlying26 (fun b w => ck63 1 b w) _ f2 _ e2 ?_
      intro w5 M5
      go_wp2
      go_end0
      exact ⟨rfl, by rw [hend.out]; exact M5⟩
end Go.Proofs.Ybulkdufc
