/-
  '(*Table).remove' of a client without a session.
-/
import Derived.Test.YbulkdufcRemove0
namespace Go.Proofs.Ybulkdufc
open Go.RowKit Go.Split
open Extern.Stop (cell)

/-- What the map of clients holds before and after. -/
def Clis (B : Nat) (id : Int) (CO CO1 : Obj) : Prop :=
  (CO = .map #[] 0 ∧ CO1 = .map #[] 0) ∨ (CO = .map #[ent (.int .u64 id) (.pointer (some ⟨B + 10, 0, none⟩)) 0] 1 ∧ CO1 = .map #[] 1) ∨ (CO = .map #[ent (.int .u64 id) (.pointer (some ⟨B + 12, 0, none⟩)) 0] 1 ∧ CO1 = CO)
structure RPre (L : List Obj) (B : Nat) (id : Int) (CO : Obj) : Prop where
  tab : ∃ CT, L[8]? = some (.cells CT 44 (0, 0)) ∧ Tab CT B
  cli : ∃ CC ow m0, L[10]? = some (.cells CC 57 (0, 0)) ∧ Cli CC id ow m0 (B + 9)
  d : ∃ CD, L[12]? = some (.cells CD 57 (0, 0))
  clients : L[0]? = some CO
theorem set_same {L : List Obj} {i : Nat} {o : Obj} (h : L[i]? = some o) : L.set i o = L := by
  apply List.ext_getElem?
  intro j
  by_cases hj : i = j
  · subst hj
    have hlt := (List.getElem?_eq_some_iff.1 h).1
    rw [h]; simp [hlt]
  · rw [List.getElem?_set_ne hj]
def nilIt : Obj := .mapIter none 0 #[] 0

set_option maxRecDepth 100000 in
set_option maxHeartbeats 2000000 in
theorem remove_no (w0 w : World) (B : Nat) (id : Int) (CO CO1 : Obj) (L : List Obj) (hM : Mem w0 w B L) (R : RPre L B id CO) (h9 : L[9]? = some (.map #[] 0)) (hC : Clis B id CO CO1) :
    Calls Yba.prog 6 #[.pointer (some ⟨B + 8, 0, none⟩), .pointer (some ⟨B + 10, 0, none⟩)] w fun r w1 => r = .returned (.tuple #[]) ∧ Mem w0 w1 B ((L ++ [.mapIter (some (B + 9)) 0 #[] 0, nilIt, nilIt]).set 0 CO1) := by
  obtain ⟨CC, ow, m0, hc, C⟩ := R.cli
  obtain ⟨CT, hT, T⟩ := R.tab
  obtain ⟨CD, hD⟩ := R.d
  have l12 := (List.getElem?_eq_some_iff.1 hD).1
  obtain ⟨n, hn⟩ : ∃ n, L.length = n := ⟨_, rfl⟩
  have hap : ∀ (o : List Obj) k, k < n → (L ++ o)[k]? = L[k]? := fun o k hk => List.getElem?_append_left (by omega)
  have n1 : (L ++ [Obj.mapIter (some (B + 9)) 0 #[] 0]).length = n + 1 := by simp [hn]
  have n2 : (L ++ [Obj.mapIter (some (B + 9)) 0 #[] 0] ++ [nilIt]).length = n + 2 := by simp [hn]
  have i1 : (L ++ [Obj.mapIter (some (B + 9)) 0 #[] 0])[n]? = some (.mapIter (some (B + 9)) 0 #[] 0) := by rw [← hn]; simp
  have i2 : (L ++ [Obj.mapIter (some (B + 9)) 0 #[] 0] ++ [nilIt])[n + 1]? = some nilIt := by rw [← n1]; simp
  have i3 : (L ++ [Obj.mapIter (some (B + 9)) 0 #[] 0] ++ [nilIt] ++ [nilIt])[n + 2]? = some nilIt := by rw [← n2]; simp
  go_enter Yba.func6, Yba.ntmps6
  go_wp2_with (first
    | (refine at_op (.load 26 (.tmp 14)) rfl ?_; refine m_load1 rfl 26 (.tmp 14) rfl 10 18 CC 57 (0, 0) (.map (some (B + 9))) rfl hM hc C.sessions _ Yba.underlying26 rfl ?_)
    | (refine at_op (.range 26 (.tmp 15)) rfl ?_; refine m_range rfl 26 63 _ (.tmp 15) rfl 9 0 _ rfl Yba.underlying26 hM h9 n hn ?_; intro w1 M1))
  simp only [Act.put, List.setIfInBounds_toArray, List.set_cons_zero, List.set_cons_succ]
  go_loopw [] (fun wr => Mem w0 wr B (L ++ [.mapIter (some (B + 9)) 0 #[] 0])) (fun _ => 0)
  case atStart => exact M1
  case round =>
    clear M1
    have M := hrel
    have g9 := (hap [.mapIter (some (B + 9)) 0 #[] 0] 9 (by omega)).trans h9
    have g10 := (hap [.mapIter (some (B + 9)) 0 #[] 0] 10 (by omega)).trans hc
    go_wp2_with (first
      | (refine at_op (.next (.tmp 16) false) rfl ?_; refine m_next_over rfl (.tmp 16) rfl (nx_none _ (M.get i1) (M.get g9)) ?_)
      | (refine at_op (.load 55 (.tmp 26)) rfl ?_; refine m_load1 rfl 55 (.tmp 26) rfl 10 31 CC 57 (0, 0) (.map none) rfl M g10 C.openOwners _ Yba.underlying55 rfl ?_)
      | (refine at_op (.range 55 (.tmp 27)) rfl ?_; refine m_range_nil rfl 55 _ _ (.tmp 27) rfl rfl Yba.underlying55 M (n + 1) n1 ?_; intro w2 M2))
    simp only [Act.put, List.setIfInBounds_toArray, List.set_cons_zero, List.set_cons_succ]
    go_loopw [] (fun wr => Mem w0 wr B (L ++ [.mapIter (some (B + 9)) 0 #[] 0] ++ [nilIt])) (fun _ => 0)
    case atStart => exact M2
    case round =>
      clear M2 M
      have M := hrel
      have g10 := (hap [.mapIter (some (B + 9)) 0 #[] 0, nilIt] 10 (by omega)).trans hc
      rw [show L ++ [Obj.mapIter (some (B + 9)) 0 #[] 0, nilIt] = L ++ [Obj.mapIter (some (B + 9)) 0 #[] 0] ++ [nilIt] by simp] at g10
      go_wp2_with (first
        | (refine at_op (.next (.tmp 28) false) rfl ?_; refine m_next_over rfl (.tmp 28) rfl (nx_nil _ (M.get i2)) ?_)
        | (refine at_op (.load 29 (.tmp 64)) rfl ?_; refine m_load1 rfl 29 (.tmp 64) rfl 10 32 CC 57 (0, 0) (.map none) rfl M g10 C.delegations _ Yba.underlying29 rfl ?_)
        | (refine at_op (.range 29 (.tmp 65)) rfl ?_; refine m_range_nil rfl 29 _ _ (.tmp 65) rfl rfl Yba.underlying29 M (n + 2) n2 ?_; intro w3 M3))
      simp only [Act.put, List.setIfInBounds_toArray, List.set_cons_zero, List.set_cons_succ]
      go_loopw [] (fun wr => Mem w0 wr B (L ++ [.mapIter (some (B + 9)) 0 #[] 0] ++ [nilIt] ++ [nilIt])) (fun _ => 0)
      case atStart => exact M3
      case round =>
        clear M3 M
        have M := hrel
        have hL : L ++ [Obj.mapIter (some (B + 9)) 0 #[] 0, nilIt, nilIt] = L ++ [Obj.mapIter (some (B + 9)) 0 #[] 0] ++ [nilIt] ++ [nilIt] := by simp
        go_wp2_with (first
          | (refine at_op (.next (.tmp 66) false) rfl ?_; refine m_next_over rfl (.tmp 66) rfl (nx_nil _ (M.get i3)) ?_))
        rw [← hL] at M
        have g8 := (hap [.mapIter (some (B + 9)) 0 #[] 0, nilIt, nilIt] 8 (by omega)).trans hT
        have g0 := (hap [.mapIter (some (B + 9)) 0 #[] 0, nilIt, nilIt] 0 (by omega)).trans R.clients
        have g10 := (hap [.mapIter (some (B + 9)) 0 #[] 0, nilIt, nilIt] 10 (by omega)).trans hc
        have g12 := (hap [.mapIter (some (B + 9)) 0 #[] 0, nilIt, nilIt] 12 (by omega)).trans hD
        obtain ⟨LF, hLF⟩ : ∃ LF, LF = L ++ [.mapIter (some (B + 9)) 0 #[] 0, nilIt, nilIt] := ⟨_, rfl⟩
        rw [← hLF] at M g8 g0 g10 g12
        have HLF : Hid _ := hLF
        clear hLF hL
        have hc1 : wr.cell? ⟨B + 8, 12, none⟩ = some (.map (some (B + 0))) := (cell_of_row wr (B + 8) 12 _ _ _ (M.get g8)).trans T.clients
        have hc2 : wr.cell? ⟨B + 10, 0, none⟩ = some (.int .u64 id) := (cell_of_row wr (B + 10) 0 _ _ _ (M.get g10)).trans C.id
        rcases hC with ⟨rfl, rfl⟩ | ⟨rfl, rfl⟩ | ⟨rfl, rfl⟩
        · have hlk : ∀ q, (Instr.lookup 24 (.map (some (B + 0))) (.int .u64 id) false).run Yba.prog (wr.drewN q) = .ok (.pointer none) (wr.drewN q) := fun q => (run_look_none (P := Yba.prog) Yba.underlying24 ((M.drewN q).get g0) (ck46 id _ _) (find_nil _ Yba.underlying46 _) (by kernel_rfl) false)
          have hbe : ∀ q, (binOp .eql 45 (.pointer none) (.pointer (some ⟨B + 10, 0, none⟩))).run Yba.prog (wr.drewN q) = .ok (.bool false) (wr.drewN q) := fun q => eql45 (fun d => eq45_nil d _ _)
          refine wp_region_quiet_lit (by kernel_rfl) (by kernel_rfl) ?_
          repeat (first
            | (refine wq_lookup 24 (.tmp 77) (.tmp 81) false rfl rfl (.map (some (B + 0))) (.int .u64 id) (.pointer none) rfl rfl hlk ?_; simp only [Act.put, List.setIfInBounds_toArray, List.set_cons_zero, List.set_cons_succ])
            | (refine wq_bin .eql 45 (.tmp 82) (.tmp 83) 45 rfl rfl (.pointer none) (.pointer (some ⟨B + 10, 0, none⟩)) (.bool false) rfl rfl (fun w => gd45 _ _ _ _ _ w (.inl rfl)) hbe ?_; simp only [Act.put, List.setIfInBounds_toArray, List.set_cons_zero, List.set_cons_succ])
            | go_big_quiet_step (fail))
          refine wpQuiet_nil ?_
          rintro w9 ⟨nq, rfl⟩
          have M9 := M.drewN nq
          clear hlk hbe hc1 hc2
          generalize wr.drewN nq = w9 at M9 ⊢
          go_wp2
          go_end0
          exact ⟨rfl, by rw [← HLF.out, set_same g0]; exact M9⟩
        · have hlk : ∀ q, (Instr.lookup 24 (.map (some (B + 0))) (.int .u64 id) false).run Yba.prog (wr.drewN q) = .ok (.pointer (some ⟨B + 10, 0, none⟩)) (wr.drewN q) := fun q => (run_look (P := Yba.prog) Yba.underlying24 ((M.drewN q).get g0) (ck46 id _ _) (find_hit _ Yba.underlying46 _ _ _ _ (same_int id)) false)
          have hbe : ∀ q, (binOp .eql 45 (.pointer (some ⟨B + 10, 0, none⟩)) (.pointer (some ⟨B + 10, 0, none⟩))).run Yba.prog (wr.drewN q) = .ok (.bool true) (wr.drewN q) := fun q => eql45 (fun d => eq45_same d _ _)
          refine wp_region_quiet_lit (by kernel_rfl) (by kernel_rfl) ?_
          repeat (first
            | (refine wq_lookup 24 (.tmp 77) (.tmp 81) false rfl rfl (.map (some (B + 0))) (.int .u64 id) (.pointer (some ⟨B + 10, 0, none⟩)) rfl rfl hlk ?_; simp only [Act.put, List.setIfInBounds_toArray, List.set_cons_zero, List.set_cons_succ])
            | (refine wq_bin .eql 45 (.tmp 82) (.tmp 83) 45 rfl rfl (.pointer (some ⟨B + 10, 0, none⟩)) (.pointer (some ⟨B + 10, 0, none⟩)) (.bool true) rfl rfl (fun w => gd45 _ _ _ _ _ w (.inl rfl)) hbe ?_; simp only [Act.put, List.setIfInBounds_toArray, List.set_cons_zero, List.set_cons_succ])
            | go_big_quiet_step (fail))
          refine wpQuiet_nil ?_
          rintro w9 ⟨nq, rfl⟩
          have M9 := M.drewN nq
          clear hlk hbe hc1 hc2
          generalize wr.drewN nq = w9 at M9 ⊢
          go_wp2
          have hc1 : w9.drew.cell? ⟨B + 8, 12, none⟩ = some (.map (some (B + 0))) := (cell_of_row w9 (B + 8) 12 _ _ _ (M9.get g8)).trans T.clients
          have hc2 : w9.drew.cell? ⟨B + 10, 0, none⟩ = some (.int .u64 id) := (cell_of_row w9 (B + 10) 0 _ _ _ (M9.get g10)).trans C.id
          refine wp_region_cut mixed [0, 1, 2, 3, 4, 5, 6, 7] 8 [] (by kernel_rfl) (by kernel_rfl) (fun c a d v w h => by cases d <;> exact h) ?_
          simp only [List.filterMap_cons, List.filterMap_nil, List.getElem?_toArray, List.getElem?_cons_zero, List.getElem?_cons_succ]
          refine (show wpQuiet _ _ _ _ [_, _, _, _, _, _, _, _] _ from ?_)
          repeat (go_big_quiet_step (fail))
          refine wpQuiet_nil (show wpList _ _ _ [_] _ _ from ?_)
          refine m_delete rfl 24 46 _ 46 (.tmp 88) (.tmp 92) rfl 0 1 _ (.int .u64 id) rfl rfl M9.drew g0 Yba.underlying24 (fun b w => ck46 id b w) (some (0, .pointer (some ⟨B + 10, 0, none⟩))) (fun w => find_hit w Yba.underlying46 _ _ _ _ (same_int id)) #[] (by simp [struck]) ?_
          intro w5 M5
          go_wp2
          go_end0
          exact ⟨rfl, by rw [← HLF.out]; exact M5⟩
        · have hlk : ∀ q, (Instr.lookup 24 (.map (some (B + 0))) (.int .u64 id) false).run Yba.prog (wr.drewN q) = .ok (.pointer (some ⟨B + 12, 0, none⟩)) (wr.drewN q) := fun q => (run_look (P := Yba.prog) Yba.underlying24 ((M.drewN q).get g0) (ck46 id _ _) (find_hit _ Yba.underlying46 _ _ _ _ (same_int id)) false)
          have hbe : ∀ q, (binOp .eql 45 (.pointer (some ⟨B + 12, 0, none⟩)) (.pointer (some ⟨B + 10, 0, none⟩))).run Yba.prog (wr.drewN q) = .ok (.bool false) (wr.drewN q) := fun q => eql45 (fun d => eq45_diff d (fun h => absurd (congrArg Addr.block h) (by simp)) ((M.drewN q).get g12) ((M.drewN q).get g10))
          refine wp_region_quiet_lit (by kernel_rfl) (by kernel_rfl) ?_
          repeat (first
            | (refine wq_lookup 24 (.tmp 77) (.tmp 81) false rfl rfl (.map (some (B + 0))) (.int .u64 id) (.pointer (some ⟨B + 12, 0, none⟩)) rfl rfl hlk ?_; simp only [Act.put, List.setIfInBounds_toArray, List.set_cons_zero, List.set_cons_succ])
            | (refine wq_bin .eql 45 (.tmp 82) (.tmp 83) 45 rfl rfl (.pointer (some ⟨B + 12, 0, none⟩)) (.pointer (some ⟨B + 10, 0, none⟩)) (.bool false) rfl rfl (fun w => gd45 _ _ _ _ _ w (.inl rfl)) hbe ?_; simp only [Act.put, List.setIfInBounds_toArray, List.set_cons_zero, List.set_cons_succ])
            | go_big_quiet_step (fail))
          refine wpQuiet_nil ?_
          rintro w9 ⟨nq, rfl⟩
          have M9 := M.drewN nq
          clear hlk hbe hc1 hc2
          generalize wr.drewN nq = w9 at M9 ⊢
          go_wp2
          go_end0
          exact ⟨rfl, by rw [← HLF.out, set_same g0]; exact M9⟩
end Go.Proofs.Ybulkdufc
