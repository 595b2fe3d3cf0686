/-
  '(*Table).remove' of a client with its one session.
-/
import Derived.Test.YbulkdufcRemove
namespace Go.Proofs.Ybulkdufc
open Go.RowKit Go.Split
open Extern.Stop (cell)

theorem ended_keep {L : List Obj} {B jc ji b : Nat} {s2 : Addr} {k : Nat} (h : k < L.length) (h1 : k ≠ jc) (h2 : k ≠ ji) (h3 : k ≠ 3) (h4 : k ≠ 9) : (ended L B jc ji b s2)[k]? = L[k]? := by
  unfold ended unl
  rw [List.getElem?_set_ne (fun e => h4 e.symm), List.getElem?_set_ne (fun e => h3 e.symm), List.getElem?_set_ne (fun e => h2 e.symm), List.getElem?_set_ne (fun e => h1 e.symm), List.getElem?_append_left h]
theorem ended_length {L : List Obj} {B jc ji b : Nat} {s2 : Addr} : (ended L B jc ji b s2).length = L.length + 1 := by simp [ended, unl]
theorem ended_9 {L : List Obj} {B jc ji b : Nat} {s2 : Addr} (h : 9 < L.length) : (ended L B jc ji b s2)[9]? = some (.map #[] 1) := by
  unfold ended
  rw [List.getElem?_set_self (by simp [unl]; omega)]
theorem EPre.push {L : List Obj} {B js jc ji b : Nat} {conn : Int} {s2 : Addr} (E : EPre L B js jc ji b conn s2) (o : Obj) : EPre (L ++ [o]) B js jc ji b conn s2 := by
  have hap : ∀ k x, L[k]? = some x → (L ++ [o])[k]? = some x := fun k x h => by rw [List.getElem?_append_left (List.getElem?_eq_some_iff.1 h).1]; exact h
  obtain ⟨CT, hT, T⟩ := E.U.tab
  obtain ⟨CS, hS, S⟩ := E.U.ses
  obtain ⟨CC, id, ow, m0, hC, C⟩ := E.cli
  obtain ⟨es, ii, hin, hf, he⟩ := E.U.inner
  exact ⟨⟨⟨CT, hap _ _ hT, T⟩, ⟨CS, hap _ _ hS, S⟩, hap _ _ E.U.conns, hap _ _ E.U.tconns, ⟨es, ii, hap _ _ hin, hf, he⟩, E.U.ne1, E.U.ne2, E.U.ne3, E.U.ne4⟩, hap _ _ E.sess, hap _ _ E.csess, ⟨CC, id, ow, m0, hap _ _ hC, C⟩, E.far, E.ne5⟩
set_option maxRecDepth 100000 in
set_option maxHeartbeats 2000000 in
theorem remove_ws (w0 w : World) (B js jc ji b : Nat) (conn : Int) (s2 : Addr) (id : Int) (CO CO1 : Obj) (L : List Obj) (hM : Mem w0 w B L) (R : RPre L B id CO) (E : EPre L B js jc ji b conn s2) (hC : Clis B id CO CO1) :
    Calls Yba.prog 6 #[.pointer (some ⟨B + 8, 0, none⟩), .pointer (some ⟨B + 10, 0, none⟩)] w fun r w1 => r = .returned (.tuple #[]) ∧ Mem w0 w1 B ((ended (L ++ [.mapIter (some (B + 9)) 1 #[0] 1]) B jc ji b s2 ++ [nilIt, nilIt]).set 0 CO1) := by
  obtain ⟨CC, ow, m0, hc, C⟩ := R.cli
  obtain ⟨CT, hT, T⟩ := R.tab
  obtain ⟨CD, hD⟩ := R.d
  have l12 := (List.getElem?_eq_some_iff.1 hD).1
  obtain ⟨far1, far2, far3⟩ := E.far
  have ljc := (List.getElem?_eq_some_iff.1 E.U.conns).1
  have lji : ji < L.length := by obtain ⟨_, _, hin, _, _⟩ := E.U.inner; exact (List.getElem?_eq_some_iff.1 hin).1
  obtain ⟨n, hn⟩ : ∃ n, L.length = n := ⟨_, rfl⟩
  have hap0 : ∀ (o : List Obj) k, k < n → (L ++ o)[k]? = L[k]? := fun o k hk => List.getElem?_append_left (by omega)
  have hst : ∀ (o o' : Obj), (L ++ [o]).set n o' = L ++ [o'] := fun o o' => by rw [← hn]; simp
  have i0 : (L ++ [Obj.mapIter (some (B + 9)) 1 #[] 1])[n]? = some (.mapIter (some (B + 9)) 1 #[] 1) := by rw [← hn]; simp
  have c0 := (hap0 [Obj.mapIter (some (B + 9)) 1 #[] 1] 9 (by omega)).trans E.csess
  have i0' : (L ++ [Obj.mapIter (some (B + 9)) 1 #[0] 1])[n]? = some (.mapIter (some (B + 9)) 1 #[0] 1) := by rw [← hn]; simp
  have c0' := (hap0 [Obj.mapIter (some (B + 9)) 1 #[0] 1] 9 (by omega)).trans E.csess
  have E1 := E.push (.mapIter (some (B + 9)) 1 #[0] 1)
  obtain ⟨LE, hLE⟩ : ∃ LE, LE = ended (L ++ [.mapIter (some (B + 9)) 1 #[0] 1]) B jc ji b s2 := ⟨_, rfl⟩
  have hlen : LE.length = n + 2 := by rw [hLE, ended_length]; simp [hn]
  have i1 : LE[n]? = some (.mapIter (some (B + 9)) 1 #[0] 1) := by rw [hLE, ended_keep (by simp; omega) (by omega) (by omega) (by omega) (by omega)]; exact i0'
  have g9 : LE[9]? = some (.map #[] 1) := by rw [hLE, ended_9 (by simp; omega)]
  have hk : ∀ k, k < 13 → k ≠ 3 → k ≠ 9 → LE[k]? = L[k]? := fun k h1 h2 h3 => by rw [hLE, ended_keep (by simp; omega) (by omega) (by omega) h2 h3]; exact hap0 _ k (by omega)
  have HLE : Hid _ := hLE
  have n2 : (LE ++ [nilIt]).length = n + 3 := by simp [hlen]
  have i2 : (LE ++ [nilIt])[n + 2]? = some nilIt := by rw [← hlen]; simp
  have i3 : (LE ++ [nilIt] ++ [nilIt])[n + 3]? = some nilIt := by rw [← n2]; simp
  have hap : ∀ (o : List Obj) k, k < n → (LE ++ o)[k]? = LE[k]? := fun o k hk => List.getElem?_append_left (by omega)
  rw [← hLE]
  clear hLE
  go_enter Yba.func6, Yba.ntmps6
  go_wp2_with (first
    | (refine at_op (.load 26 (.tmp 14)) rfl ?_; refine m_load1 rfl 26 (.tmp 14) rfl 10 18 CC 57 (0, 0) (.map (some (B + 9))) rfl hM hc C.sessions _ Yba.underlying26 rfl ?_)
    | (refine at_op (.range 26 (.tmp 15)) rfl ?_; refine m_range rfl 26 63 _ (.tmp 15) rfl 9 1 _ rfl Yba.underlying26 hM E.csess n hn ?_; intro w1 M1))
  simp only [Act.put, List.setIfInBounds_toArray, List.set_cons_zero, List.set_cons_succ]
  go_loopw [] (fun wr => Mem w0 wr B (L ++ [.mapIter (some (B + 9)) 1 #[] 1]) ∨ Mem w0 wr B LE) (fun wr => count wr (B + 9))
  case atStart => exact .inl M1
  case round =>
   clear M1
   rcases hrel with M | M
   · go_wp2_with (first
       | (refine at_op (.next (.tmp 16) false) rfl ?_; refine m_next_one rfl (.tmp 16) rfl n 9 1 1 1 (ent (.agg (kc (sid 1))) (.pointer (some ⟨B + js, 0, none⟩)) 0) rfl M i0 c0 (by show 0 < 1; omega) ?_; rw [hst]; intro w2 M2)
       | (refine at_op (.entry (.tmp 16)) rfl ?_; refine m_entry rfl (.tmp 16) rfl n 9 1 1 (ent (.agg (kc (sid 1))) (.pointer (some ⟨B + js, 0, none⟩)) 0) rfl M2 i0' c0' ?_; refine (show wpList _ _ _ _ (Act.put _ _ (.tuple #[.agg (kc (sid 1)), .pointer (some ⟨B + js, 0, none⟩)])) _ from ?_))
       | (go_at_call 7; refine (end_any w0 w2 B js jc ji b conn s2 _ M2 E1).mono ?_; rintro _ w3 ⟨rfl, M3'⟩; have M3 : Mem w0 w3 B LE := (by rw [HLE.out]; exact M3')))
     go_roundw
     case rel => exact .inr M3
     case measure => rw [count_of (M3.get g9), count_of (M.get c0)]; simp
   ·
    have g10 := (hk 10 (by omega) (by omega) (by omega)).trans hc
    go_wp2_with (first
      | (refine at_op (.next (.tmp 16) false) rfl ?_; refine m_next_over rfl (.tmp 16) rfl (nx_none _ (M.get i1) (M.get g9)) ?_)
      | (refine at_op (.load 55 (.tmp 26)) rfl ?_; refine m_load1 rfl 55 (.tmp 26) rfl 10 31 CC 57 (0, 0) (.map none) rfl M g10 C.openOwners _ Yba.underlying55 rfl ?_)
      | (refine at_op (.range 55 (.tmp 27)) rfl ?_; refine m_range_nil rfl 55 _ _ (.tmp 27) rfl rfl Yba.underlying55 M (n + 2) hlen ?_; intro w2 M2))
    simp only [Act.put, List.setIfInBounds_toArray, List.set_cons_zero, List.set_cons_succ]
    go_loopw [] (fun wr => Mem w0 wr B (LE ++ [nilIt])) (fun _ => 0)
    case atStart => exact M2
    case round =>
      clear M2 M
      have M := hrel
      have g10 := (hap [nilIt] 10 (by omega)).trans ((hk 10 (by omega) (by omega) (by omega)).trans hc)
      go_wp2_with (first
        | (refine at_op (.next (.tmp 28) false) rfl ?_; refine m_next_over rfl (.tmp 28) rfl (nx_nil _ (M.get i2)) ?_)
        | (refine at_op (.load 29 (.tmp 64)) rfl ?_; refine m_load1 rfl 29 (.tmp 64) rfl 10 32 CC 57 (0, 0) (.map none) rfl M g10 C.delegations _ Yba.underlying29 rfl ?_)
        | (refine at_op (.range 29 (.tmp 65)) rfl ?_; refine m_range_nil rfl 29 _ _ (.tmp 65) rfl rfl Yba.underlying29 M (n + 3) n2 ?_; intro w3 M3))
      simp only [Act.put, List.setIfInBounds_toArray, List.set_cons_zero, List.set_cons_succ]
      go_loopw [] (fun wr => Mem w0 wr B (LE ++ [nilIt] ++ [nilIt])) (fun _ => 0)
      case atStart => exact M3
      case round =>
        clear M3 M
        have M := hrel
        have hL : LE ++ [nilIt, nilIt] = LE ++ [nilIt] ++ [nilIt] := by simp
        go_wp2_with (first
          | (refine at_op (.next (.tmp 66) false) rfl ?_; refine m_next_over rfl (.tmp 66) rfl (nx_nil _ (M.get i3)) ?_))
        rw [← hL] at M
        have g8 := (hap [nilIt, nilIt] 8 (by omega)).trans ((hk 8 (by omega) (by omega) (by omega)).trans hT)
        have g0 := (hap [nilIt, nilIt] 0 (by omega)).trans ((hk 0 (by omega) (by omega) (by omega)).trans R.clients)
        have g10 := (hap [nilIt, nilIt] 10 (by omega)).trans ((hk 10 (by omega) (by omega) (by omega)).trans hc)
        have g12 := (hap [nilIt, nilIt] 12 (by omega)).trans ((hk 12 (by omega) (by omega) (by omega)).trans hD)
        obtain ⟨LF, hLF⟩ : ∃ LF, LF = LE ++ [nilIt, nilIt] := ⟨_, rfl⟩
        rw [← hLF] at M g8 g0 g10 g12
        have HLF : Hid _ := hLF
        clear hLF hL
        have hc1 : wr.cell? ⟨B + 8, 12, none⟩ = some (.map (some (B + 0))) := (cell_of_row wr (B + 8) 12 _ _ _ (M.get g8)).trans T.clients
        have hc2 : wr.cell? ⟨B + 10, 0, none⟩ = some (.int .u64 id) := (cell_of_row wr (B + 10) 0 _ _ _ (M.get g10)).trans C.id
        rcases hC with ⟨rfl, rfl⟩ | ⟨rfl, rfl⟩ | ⟨rfl, rfl⟩
        · have hlk : ∀ q, (Instr.lookup 24 (.map (some (B + 0))) (.int .u64 id) false).run Yba.prog (wr.drewN q) = .ok (.pointer none) (wr.drewN q) := fun q => (run_look_none (P := Yba.prog) Yba.underlying24 ((M.drewN q).get g0) (ck46 id _ _) (find_nil _ Yba.underlying46 _) (by kernel_rfl) false)
          have hbe : ∀ q, (binOp .eql 45 (.pointer none) (.pointer (some ⟨B + 10, 0, none⟩))).run Yba.prog (wr.drewN q) = .ok (.bool false) (wr.drewN q) := fun q => eql45 (fun d => eq45_nil d _ _)
          refine wp_region_quiet_lit (by kernel_rfl) (by kernel_rfl) ?_
          repeat (first
            | (refine wq_lookup 24 (.tmp 77) (.tmp 81) false rfl rfl (.map (some (B + 0))) (.int .u64 id) (.pointer none) rfl rfl hlk ?_; simp only [Act.put, List.setIfInBounds_toArray, List.set_cons_zero, List.set_cons_succ])
            | (refine wq_bin .eql 45 (.tmp 82) (.tmp 83) 45 rfl rfl (.pointer none) (.pointer (some ⟨B + 10, 0, none⟩)) (.bool false) rfl rfl (fun w => gd45 _ _ _ _ _ w (.inl rfl)) hbe ?_; simp only [Act.put, List.setIfInBounds_toArray, List.set_cons_zero, List.set_cons_succ])
            | go_big_quiet_step (fail))
          refine wpQuiet_nil ?_
          rintro w9 ⟨nq, rfl⟩
          have M9 := M.drewN nq
          clear hlk hbe hc1 hc2
          generalize wr.drewN nq = w9 at M9 ⊢
          go_wp2
          go_end0
          exact ⟨rfl, by rw [← HLF.out, set_same g0]; exact M9⟩
        · have hlk : ∀ q, (Instr.lookup 24 (.map (some (B + 0))) (.int .u64 id) false).run Yba.prog (wr.drewN q) = .ok (.pointer (some ⟨B + 10, 0, none⟩)) (wr.drewN q) := fun q => (run_look (P := Yba.prog) Yba.underlying24 ((M.drewN q).get g0) (ck46 id _ _) (find_hit _ Yba.underlying46 _ _ _ _ (same_int id)) false)
          have hbe : ∀ q, (binOp .eql 45 (.pointer (some ⟨B + 10, 0, none⟩)) (.pointer (some ⟨B + 10, 0, none⟩))).run Yba.prog (wr.drewN q) = .ok (.bool true) (wr.drewN q) := fun q => eql45 (fun d => eq45_same d _ _)
          refine wp_region_quiet_lit (by kernel_rfl) (by kernel_rfl) ?_
          repeat (first
            | (refine wq_lookup 24 (.tmp 77) (.tmp 81) false rfl rfl (.map (some (B + 0))) (.int .u64 id) (.pointer (some ⟨B + 10, 0, none⟩)) rfl rfl hlk ?_; simp only [Act.put, List.setIfInBounds_toArray, List.set_cons_zero, List.set_cons_succ])
            | (refine wq_bin .eql 45 (.tmp 82) (.tmp 83) 45 rfl rfl (.pointer (some ⟨B + 10, 0, none⟩)) (.pointer (some ⟨B + 10, 0, none⟩)) (.bool true) rfl rfl (fun w => gd45 _ _ _ _ _ w (.inl rfl)) hbe ?_; simp only [Act.put, List.setIfInBounds_toArray, List.set_cons_zero, List.set_cons_succ])
            | go_big_quiet_step (fail))
          refine wpQuiet_nil ?_
          rintro w9 ⟨nq, rfl⟩
          have M9 := M.drewN nq
          clear hlk hbe hc1 hc2
          generalize wr.drewN nq = w9 at M9 ⊢
          go_wp2
          have hc1 : w9.drew.cell? ⟨B + 8, 12, none⟩ = some (.map (some (B + 0))) := (cell_of_row w9 (B + 8) 12 _ _ _ (M9.get g8)).trans T.clients
          have hc2 : w9.drew.cell? ⟨B + 10, 0, none⟩ = some (.int .u64 id) := (cell_of_row w9 (B + 10) 0 _ _ _ (M9.get g10)).trans C.id
          refine wp_region_cut mixed [0, 1, 2, 3, 4, 5, 6, 7] 8 [] (by kernel_rfl) (by kernel_rfl) (fun c a d v w h => by cases d <;> exact h) ?_
          simp only [List.filterMap_cons, List.filterMap_nil, List.getElem?_toArray, List.getElem?_cons_zero, List.getElem?_cons_succ]
          refine (show wpQuiet _ _ _ _ [_, _, _, _, _, _, _, _] _ from ?_)
          repeat (go_big_quiet_step (fail))
          refine wpQuiet_nil (show wpList _ _ _ [_] _ _ from ?_)
          refine m_delete rfl 24 46 _ 46 (.tmp 88) (.tmp 92) rfl 0 1 _ (.int .u64 id) rfl rfl M9.drew g0 Yba.underlying24 (fun b w => ck46 id b w) (some (0, .pointer (some ⟨B + 10, 0, none⟩))) (fun w => find_hit w Yba.underlying46 _ _ _ _ (same_int id)) #[] (by simp [struck]) ?_
          intro w5 M5
          go_wp2
          go_end0
          exact ⟨rfl, by rw [HLF.out, List.set_append_left _ _ (by omega)] at M5; exact M5⟩
        · have hlk : ∀ q, (Instr.lookup 24 (.map (some (B + 0))) (.int .u64 id) false).run Yba.prog (wr.drewN q) = .ok (.pointer (some ⟨B + 12, 0, none⟩)) (wr.drewN q) := fun q => (run_look (P := Yba.prog) Yba.underlying24 ((M.drewN q).get g0) (ck46 id _ _) (find_hit _ Yba.underlying46 _ _ _ _ (same_int id)) false)
          have hbe : ∀ q, (binOp .eql 45 (.pointer (some ⟨B + 12, 0, none⟩)) (.pointer (some ⟨B + 10, 0, none⟩))).run Yba.prog (wr.drewN q) = .ok (.bool false) (wr.drewN q) := fun q => eql45 (fun d => eq45_diff d (fun h => absurd (congrArg Addr.block h) (by simp)) ((M.drewN q).get g12) ((M.drewN q).get g10))
          refine wp_region_quiet_lit (by kernel_rfl) (by kernel_rfl) ?_
          repeat (first
            | (refine wq_lookup 24 (.tmp 77) (.tmp 81) false rfl rfl (.map (some (B + 0))) (.int .u64 id) (.pointer (some ⟨B + 12, 0, none⟩)) rfl rfl hlk ?_; simp only [Act.put, List.setIfInBounds_toArray, List.set_cons_zero, List.set_cons_succ])
            | (refine wq_bin .eql 45 (.tmp 82) (.tmp 83) 45 rfl rfl (.pointer (some ⟨B + 12, 0, none⟩)) (.pointer (some ⟨B + 10, 0, none⟩)) (.bool false) rfl rfl (fun w => gd45 _ _ _ _ _ w (.inl rfl)) hbe ?_; simp only [Act.put, List.setIfInBounds_toArray, List.set_cons_zero, List.set_cons_succ])
            | go_big_quiet_step (fail))
          refine wpQuiet_nil ?_
          rintro w9 ⟨nq, rfl⟩
          have M9 := M.drewN nq
          clear hlk hbe hc1 hc2
          generalize wr.drewN nq = w9 at M9 ⊢
          go_wp2
          go_end0
          exact ⟨rfl, by rw [← HLF.out, set_same g0]; exact M9⟩
end Go.Proofs.Ybulkdufc
