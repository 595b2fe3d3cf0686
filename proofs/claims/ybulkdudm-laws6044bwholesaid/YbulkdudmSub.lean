/-
  'zzs6044bsub': is the head of P met in order in W?
-/
import Derived.Test.YbulkdudmPeers
namespace Go.Proofs.Ybulkdudm
open Go.RowKit Go.Split
open Extern.Stop (cell)

/-- A slice of peers: nil or at the head of a row. -/
structure PRow (w : World) (av : Option Addr) (n g : Nat) (E : Nat → Pe.Ev) : Prop where
  ok : ∀ i, (E i).id.length = 16
  max : n ≤ 512
  at_ : 0 < n → Hid (av = some ⟨g, 0, none⟩)
  row : 0 < n → w.heap[g]? = some (.cells (Pe.ecs (rowOf E n n)) 31 (0, 0))
theorem PRow.later {w w1 : World} {av : Option Addr} {n g : Nat} {E : Nat → Pe.Ev} (h : PRow w av n g E) (hk : 0 < n → w1.heap[g]? = w.heap[g]?) : PRow w1 av n g E :=
  ⟨h.ok, h.max, h.at_, fun hn => (hk hn).trans (h.row hn)⟩
theorem ld_pe {w : World} {av : Option Addr} {n g i : Nat} {E : Nat → Pe.Ev} (h : PRow w av n g E) (hi : i < n) : (Instr.loadAt 31 (.pointer (some ⟨g, 0 + i * 18, none⟩))).run Yba.prog w = .ok (.agg (Pe.ec (E i))) w := by
  have ok := rowOf_ok h.ok n n
  have h2 : w.rangeAt g (0 + i * 18) (Pe.ec (E i)).toList := by
    have := World.rangeAt_of_block (h.row (by omega)) (0 + i * 18) 18
    rw [Pe.ecs_extract ok (by rw [rowOf_length]; exact hi), rowOf_getD hi] at this
    exact this
  have := run_loadAt_mid (P := Yba.prog) w g (0 + i * 18) 31 (Pe.ec (E i)).toList _ h2 Yba.underlying31 rfl (by rw [Pe.size31, Array.length_toList, Pe.ec_size (h.ok i)])
  simpa using this
theorem ld_id {w : World} {av : Option Addr} {n g i : Nat} {E : Nat → Pe.Ev} (h : PRow w av n g E) (hi : i < n) : (Instr.loadAt 28 (.pointer (some ⟨g, 0 + i * 18, none⟩))).run Yba.prog w = .ok (.agg (kc (E i).id)) w := by
  have ok := rowOf_ok h.ok n n
  have h2 : w.rangeAt g (0 + i * 18) (kc (E i).id).toList := by
    have := World.rangeAt_of_block (h.row (by omega)) (0 + i * 18) 18
    rw [Pe.ecs_extract ok (by rw [rowOf_length]; exact hi), rowOf_getD hi] at this
    intro j v hj
    refine this j v ?_
    have hl : (kc (E i).id).toList.length = 16 := by simp [kc_size, h.ok i]
    have hlt := (List.getElem?_eq_some_iff.1 hj).1
    unfold Pe.ec
    rw [Array.toList_append, List.getElem?_append_left (by omega)]
    exact hj
  have := run_loadAt_mid (P := Yba.prog) w g (0 + i * 18) 28 (kc (E i).id).toList _ h2 Yba.underlying28 rfl (by rw [Id.size28, Array.length_toList, kc_size, h.ok i])
  simpa using this
theorem eql28 (x y : Key) (hx : x.length = 16) (hy : y.length = 16) (w : World) : (binOp .eql 28 (.agg (kc x)) (.agg (kc y))).run Yba.prog w = .ok (.bool (x == y)) w :=
  run_eql_bytes (P := Yba.prog) w 28 5 16 Yba.underlying28 Yba.underlying5 (fun w => by kernel_rfl) x y hx hy
theorem neq28 (x y : Key) (hx : x.length = 16) (hy : y.length = 16) (w : World) : (binOp .neq 28 (.agg (kc x)) (.agg (kc y))).run Yba.prog w = .ok (.bool (!(x == y))) w := by
  have := run_equalIn_bytes (P := Yba.prog) w 9998 28 5 16 Yba.underlying28 Yba.underlying5 (fun w => by kernel_rfl) x y hx hy
  have e : (binOp .neq 28 (.agg (kc x)) (.agg (kc y))) = (do return .bool (!(← Op.equal 28 (.agg (kc x)) (.agg (kc y))))) := rfl
  rw [e]
  simp only [Sem.run_bind, Op.equal, Op.maxDepth]
  unfold kc
  rw [this]
  rfl
theorem gd28 (o : BinOp) (x y : Operand) (a b : Array Value) (w : World) (ho : o = .eql ∨ o = .neq) : (eqGuard o 28 x y (.agg a) (.agg b)).run Yba.prog w = .ok () w := by
  have : Yba.prog.eqGuardType Yba.prog.depth 28 = false := by kernel_rfl
  rcases ho with rfl | rfl <;> simp [eqGuard, this]

section
variable {ops : Array Oper} {rest : List Oper} {op : Oper} {a : Act} {w : World} {P : Program}
theorem wq_index {R : Act → Prop} (t : TypeId) (x y : Operand) (ho : op.op = .indexAddr t x y) (hw : Region.wanted op (yielded ops a.tmps) = true) (p q v : Value) (hx : a.eval x = p) (hy : a.eval y = q) (hrun : ∀ w, (Instr.indexAt t p q).run P w = .ok v w)
    (h : wpQuiet P ops (fun w' => ∃ n, w' = w.drewN n) R rest (a.put op.dst v)) : wpQuiet P ops (fun w' => ∃ n, w' = w.drewN n) R (op :: rest) a :=
  wq_run _ ho hw v (fun n => by simp only [execOp, ho, hx, hy, Sem.run_bind, hrun, Result.andThen_ok, Sem.run_pure]) h
end
theorem fa31 (b o : Nat) (w : World) : (Instr.fieldAt 31 (.pointer (some ⟨b, o, none⟩)) 0).run Yba.prog w = .ok (.pointer (some ⟨b, o, none⟩)) w := by kernel_rfl

theorem PRow.drewN {w : World} {av : Option Addr} {n g : Nat} {E : Nat → Pe.Ev} (h : PRow w av n g E) (q : Nat) : PRow (w.drewN q) av n g E := ⟨h.ok, h.max, h.at_, h.row⟩
set_option maxRecDepth 100000 in
set_option maxHeartbeats 1000000 in
theorem sub_any (w : World) (aP aW : Option Addr) (k n m gP gW : Nat) (EP EW : Nat → Pe.Ev) (hP : PRow w aP n gP EP) (hW : PRow w aW m gW EW) (hk : k ≤ n) :
    Calls Yba.prog 5 #[.slice aP k n, .slice aW m m] w fun r w1 => r = .returned (.bool (decide (k ≤ kept (fun i => (EW i).id) (fun i => (EP i).id) n m))) ∧ ∃ q, w1 = w.drewN q := by
  have hn := hP.max
  have hm := hW.max
  obtain ⟨Wf, hWf⟩ : ∃ Wf : Nat → Key, Wf = fun i => (EW i).id := ⟨_, rfl⟩
  obtain ⟨Pf, hPf⟩ : ∃ Pf : Nat → Key, Pf = fun i => (EP i).id := ⟨_, rfl⟩
  have eW : ∀ i, (EW i).id = Wf i := fun i => by rw [hWf]
  have eP : ∀ i, (EP i).id = Pf i := fun i => by rw [hPf]
  rw [← hWf, ← hPf]
  clear hWf hPf
  obtain ⟨K, hK⟩ : ∃ K, decide (k ≤ kept Wf Pf n m) = K := ⟨_, rfl⟩
  have HK : Hid _ := hK
  rw [hK]
  clear hK
  go_enter Yba.func5, Yba.ntmps5
  go_wp2
  go_loopw [5, 6] (fun i j wr => ∃ (i' j' q : Nat), i = .int .i64 i' ∧ j = .int .i64 j' ∧ i' ≤ m ∧ j' ≤ k ∧ Hid (kept Wf Pf n i' = j') ∧ wr = w.drewN q) (fun _ j _ => k - (intOf j).toNat)
  case atStart => exact ⟨0, 0, 0, rfl, rfl, Nat.zero_le _, Nat.zero_le _, rfl, rfl⟩
  case round =>
    obtain ⟨i0, j, q0, rfl, rfl, hi0, hj, hkept0, rfl⟩ := hrel
    by_cases hjk : j < k
    · have bj : (j : Int) < (k : Int) := by omega
      go_wp2
      go_loopw [5] (fun i wr => ∃ (i' q : Nat), i = .int .i64 i' ∧ i' ≤ m ∧ Hid (kept Wf Pf n i' = j) ∧ wr = w.drewN q) (fun i _ => m - (intOf i).toNat)
      case atStart => exact ⟨i0, q0, rfl, hi0, hkept0, rfl⟩
      case round =>
        obtain ⟨i, q, rfl, hi, hkept, rfl⟩ := hrel
        clear hkept0
        by_cases him : i < m
        · have bi : (i : Int) < (m : Int) := by omega
          have hx1 := fun (w : World) => idx_run (w := w) (t := 23) (e := 31) (cap := m) (size := 18) (hW.at_ (by omega)).out him Yba.underlying23 Pe.size31
          have hx2 := fun (w : World) => idx_run (w := w) (t := 23) (e := 31) (cap := n) (size := 18) (hP.at_ (by omega)).out hjk Yba.underlying23 Pe.size31
          have l1 : ∀ q', (Instr.loadAt 28 (.pointer (some ⟨gW, i * 18, none⟩))).run Yba.prog ((w.drewN q).drewN q') = .ok (.agg (kc (Wf i))) ((w.drewN q).drewN q') := fun q' => by rw [← eW i]; have := ld_id ((hW.drewN q).drewN q') him; rwa [Nat.zero_add] at this
          have l2 : ∀ q', (Instr.loadAt 28 (.pointer (some ⟨gP, j * 18, none⟩))).run Yba.prog ((w.drewN q).drewN q') = .ok (.agg (kc (Pf j))) ((w.drewN q).drewN q') := fun q' => by rw [← eP j]; have := ld_id ((hP.drewN q).drewN q') (show j < n by omega); rwa [Nat.zero_add] at this
          have lW : (Wf i).length = 16 := by rw [← eW i]; exact hW.ok i
          have lP : (Pf j).length = 16 := by rw [← eP j]; exact hP.ok j
          go_wp2
          refine wp_region_quiet_lit (by kernel_rfl) (by kernel_rfl) ?_
          repeat (first
            | (refine wq_index 23 (.tmp 18) (.tmp 19) rfl rfl (.slice aW m m) (.int .i64 i) (.pointer (some ⟨gW, 0 + i * 18, none⟩)) rfl rfl hx1 ?_; simp only [Act.put, List.setIfInBounds_toArray, List.set_cons_zero, List.set_cons_succ])
            | (refine wq_index 23 (.tmp 23) (.tmp 24) rfl rfl (.slice aP k n) (.int .i64 j) (.pointer (some ⟨gP, 0 + j * 18, none⟩)) rfl rfl hx2 ?_; simp only [Act.put, List.setIfInBounds_toArray, List.set_cons_zero, List.set_cons_succ])
            | (refine wq_load 28 (.tmp 21) rfl rfl (.pointer (some ⟨gW, i * 18, none⟩)) (.agg (kc (Wf i))) rfl l1 ?_; simp only [Act.put, List.setIfInBounds_toArray, List.set_cons_zero, List.set_cons_succ])
            | (refine wq_load 28 (.tmp 26) rfl rfl (.pointer (some ⟨gP, j * 18, none⟩)) (.agg (kc (Pf j))) rfl l2 ?_; simp only [Act.put, List.setIfInBounds_toArray, List.set_cons_zero, List.set_cons_succ])
            | (refine wq_bin .neq 28 (.tmp 22) (.tmp 27) 28 rfl rfl (.agg (kc (Wf i))) (.agg (kc (Pf j))) (.bool (!(Wf i == Pf j))) rfl rfl (fun w => gd28 _ _ _ _ _ w (.inr rfl)) (fun w => neq28 _ _ lW lP w) ?_; simp only [Act.put, List.setIfInBounds_toArray, List.set_cons_zero, List.set_cons_succ])
            | go_big_quiet_step (fail))
          refine wpQuiet_nil ?_
          rintro w3 ⟨nq, rfl⟩
          clear hx1 hx2 l1 l2 lW lP
          by_cases he : Pf j = Wf i
          · have heq : (Wf i == Pf j) = true := by simp [he]
            rw [heq]
            have hkt := kept_take hkept.out (by omega) he
            go_wp2
            go_roundw
            case rel => exact ⟨i + 1, j + 1, _, by go_num, by go_num, by omega, by omega, hkt.1, rfl⟩
            case measure => simp [intOf]; omega
          · have heq : (Wf i == Pf j) = false := by simpa using fun h => he h.symm
            rw [heq]
            have hks := kept_skip hkept.out he
            go_wp2
            go_roundw
            case rel => exact ⟨i + 1, _, by go_num, by omega, hks.1, rfl⟩
            case measure => simp [intOf]; omega
        · obtain rfl : i = m := by omega
          go_wp2
          refine wp_region_quiet_lit (by kernel_rfl) (by kernel_rfl) ?_
          repeat (go_big_quiet_step (fail))
          refine wpQuiet_nil ?_
          rintro w3 ⟨nq, rfl⟩
          go_wp2
          have hf : K = false := by rw [← HK.out, hkept.out]; simp; omega
          subst hf
          go_ret
          exact ⟨rfl, _, rfl⟩
    · obtain rfl : j = k := by omega
      go_wp2
      have ht : K = true := by
        rw [← HK.out]
        have := kept_mono (W := Wf) (P := Pf) (n := n) hi0
        rw [hkept0.out] at this
        simpa using this
      subst ht
      go_ret
      exact ⟨rfl, _, rfl⟩
end Go.Proofs.Ybulkdudm
