/-
  'changeOf': the greedy embedding.
-/
import Derived.Test.YbulkdudmSub
namespace Go.Proofs.Ybulkdudm
open Go.RowKit Go.Split
open Extern.Stop (cell)

theorem slice_lo {av : Option Addr} {n k : Nat} (hk : k ≤ n) (w : World) : (Instr.sliceAt 23 (.slice av n n) (some (.int .i64 k)) none none).run Yba.prog w = .ok (.slice (if n = k then av else av.map (·.add (k * 18))) (n - k) (n - k)) w := by
  obtain ⟨inf, hinf, hsz⟩ := Option.map_eq_some_iff.1 Pe.size31
  simp [Instr.sliceAt, Instr.slice, Instr.sliceBounds, Instr.sliceBound, asIntOf, run_underlying Yba.underlying23, sizeOf, typeInfo, hinf, hsz, hk, Result.andThen]
theorem slice_hi {av : Option Addr} {n k : Nat} (hk : k ≤ n) (h0 : 0 < n) (w : World) : (Instr.sliceAt 23 (.slice av n n) none (some (.int .i64 k)) none).run Yba.prog w = .ok (.slice av k n) w := by
  obtain ⟨inf, hinf, hsz⟩ := Option.map_eq_some_iff.1 Pe.size31
  have h1 : ¬ n = 0 := by omega
  have h2 : av.map (fun x => x.add 0) = av := by cases av <;> simp [Addr.add]
  simp [Instr.sliceAt, Instr.slice, Instr.sliceBounds, Instr.sliceBound, asIntOf, run_underlying Yba.underlying23, sizeOf, typeInfo, hinf, hk, Result.andThen, h1, h2]

section
variable {ops : Array Oper} {rest : List Oper} {op : Oper} {a : Act} {w : World} {Q : Exit → Act → World → Prop} {P : Program}
theorem wl_slice (hw : Region.wanted op (yielded ops a.tmps) = true) (t : TypeId) (x : Operand) (lo hi mx : Option Operand) (ho : op.op = .slice t x lo hi mx) (vx : Value) (vl vh vm : Option Value) (v : Value) (hx : a.eval x = vx) (hl : lo.map a.eval = vl) (hh : hi.map a.eval = vh) (hm : mx.map a.eval = vm)
    (hrun : (Instr.sliceAt t vx vl vh vm).run P w = .ok v w) (h : wpList P ops Q rest (a.put op.dst v) w) : wpList P ops Q (op :: rest) a w := by
  refine unguard hw (wpList_plain rfl fun K hK => ?_)
  unfold Oper.wp
  simp only [execOp, ho, hx, hl, hh, hm, Sem.run_bind, hrun, Result.andThen_ok, Sem.run_pure]
  exact hK _ _ h
end

/-- A slice of ids that holds the list l. -/
structure IdRow (w : World) (av : Option Addr) (n cap g : Nat) (L l : List Key) : Prop where
  row : Id.Row w (.slice av n cap) n cap g L
  take : L.take n = l
  nil : av.isNone = decide (n = 0)
theorem IdRow.len {w : World} {av : Option Addr} {n cap g : Nat} {L l : List Key} (h : IdRow w av n cap g L l) : l.length = n := by
  rw [← h.take]
  have := h.row.len; have := h.row.le
  simp; omega
theorem Id.Row.later {w w1 : World} {v : Value} {n cap g : Nat} {L : List Key} (h : Id.Row w v n cap g L) (hk : w.heap[g]? = some (.cells (Id.ecs L) 28 (0, 0)) → w1.heap[g]? = some (.cells (Id.ecs L) 28 (0, 0))) : Id.Row w1 v n cap g L :=
  ⟨h.ok, h.len, h.le, h.max, (match h.val with | .inl hv => .inl hv | .inr ⟨h1, h2⟩ => .inr ⟨h1, hk h2⟩)⟩
theorem IdRow.later {w w1 : World} {av : Option Addr} {n cap g : Nat} {L l : List Key} (h : IdRow w av n cap g L l) (hk : ∀ o, w.heap[g]? = some o → w1.heap[g]? = some o) : IdRow w1 av n cap g L l :=
  ⟨h.row.later (hk _), h.take, h.nil⟩
theorem IdRow.start (w : World) (g : Nat) : IdRow w none 0 0 g [] [] := ⟨⟨fun _ h => (by cases h), rfl, Nat.le_refl _, Nat.zero_le _, .inl ⟨rfl, rfl, rfl⟩⟩, rfl, rfl⟩
theorem IdRow.push {w w1 : World} {av : Option Addr} {n cap g g1 cap1 N : Nat} {L L1 l : List Key} {e : Key} (h : IdRow w av n cap g L l) (A : Id.Appd w w1 n cap g g1 cap1 L L1 e N) : IdRow w1 (some ⟨g1, 0, none⟩) (n + 1) cap1 g1 L1 (l ++ [e]) :=
  ⟨⟨A.ok, A.len, A.le, A.max, .inr ⟨rfl, A.blk⟩⟩, by rw [A.take, h.take], by simp⟩
theorem slice28 (x : Key) (h : x.length = 16) (w : World) : (Instr.buildSlice 32 1 #[(0, .agg (kc x))]).run Yba.prog w = .ok (.slice (some ⟨w.heap.size, 0, none⟩) 1 1) (w.alloc (.cells (Value.agg (kc x)).cells 28)) := by
  obtain ⟨a0, a1, a2, a3, a4, a5, a6, a7, a8, a9, a10, a11, a12, a13, a14, a15, rfl⟩ := list16 x h
  kernel_rfl
theorem ld_id0 {w : World} {b : Nat} {e : Pe.Ev} {t : TypeId} {fr : Nat × Nat} (hb : w.heap[b]? = some (.cells (Pe.ec e) t fr)) (h : e.id.length = 16) : (Instr.loadAt 28 (.pointer (some ⟨b, 0, none⟩))).run Yba.prog w = .ok (.agg (kc e.id)) w := by
  have h2 : w.rangeAt b 0 (kc e.id).toList := by
    have := World.rangeAt_of_block hb 0 16
    rwa [Pe.ec_id h] at this
  have := run_loadAt_mid (P := Yba.prog) w b 0 28 (kc e.id).toList _ h2 Yba.underlying28 rfl (by rw [Id.size28, Array.length_toList, kc_size, h])
  simpa using this

theorem rng_pe {w : World} {av : Option Addr} {n g i : Nat} {E : Nat → Pe.Ev} (h : PRow w av n g E) (hi : i < n) : w.rangeAt g (0 + i * 18) (Pe.ec (E i)).toList := by
  have ok := rowOf_ok h.ok n n
  have := World.rangeAt_of_block (h.row (by omega)) (0 + i * 18) 18
  rwa [Pe.ecs_extract ok (by rw [rowOf_length]; exact hi), rowOf_getD hi] at this

/-- While the ones left are gathered. -/
structure CInv (w wr : World) (N : Nat) (av : Option Addr) (n cap g : Nat) (L l : List Key) : Prop where
  row : IdRow wr av n cap g L l
  ge : N ≤ g
  below : Below N w wr
structure ChPost (w : World) (r : Ending) (w1 : World) (aA : Option Addr) (k N : Nat) (D : List Key) : Prop where
  out : ∃ av nn cap g L, r = .returned (.tuple #[.slice aA k k, .slice av nn cap]) ∧ CInv w w1 N av nn cap g L D
set_option maxRecDepth 100000 in
set_option maxHeartbeats 2000000 in
theorem change_any (w : World) (aP aW : Option Addr) (n m gP gW N : Nat) (EP EW : Nat → Pe.Ev) (hP : PRow w aP n gP EP) (hW : PRow w aW m gW EW) (hN : w.heap.size = N) (K : Nat) (D : List Key)
    (aA : Option Addr) (hA : Hid ((if n = K then aP else aP.map (·.add (K * 18))) = aA)) (hK : kept (fun i => (EW i).id) (fun i => (EP i).id) n m = K) (hD : left (fun i => (EW i).id) (fun i => (EP i).id) n m = D) :
    Calls Yba.prog 6 #[.slice aW m m, .slice aP n n] w fun r w1 => ChPost w r w1 aA (n - K) N D := by
  have hn := hP.max
  have hm := hW.max
  obtain ⟨Wf, hWf⟩ : ∃ Wf : Nat → Key, Wf = fun i => (EW i).id := ⟨_, rfl⟩
  obtain ⟨Pf, hPf⟩ : ∃ Pf : Nat → Key, Pf = fun i => (EP i).id := ⟨_, rfl⟩
  have eW : ∀ i, (EW i).id = Wf i := fun i => by rw [hWf]
  have eP : ∀ i, (EP i).id = Pf i := fun i => by rw [hPf]
  rw [← hWf, ← hPf] at hK hD
  clear hWf hPf
  have hgW : 0 < m → gW < N := fun h => hN ▸ lt_of_heap (hW.row h)
  have hgP : 0 < n → gP < N := fun h => hN ▸ lt_of_heap (hP.row h)
  go_enter Yba.func6, Yba.ntmps6
  go_wp2
  go_loopw [5, 6, 11] (fun s5 s6 s11 wr => ∃ (x kk : Nat) (av : Option Addr) (nn cap g : Nat) (L : List Key), s11 = .int .i64 x ∧ x ≤ m ∧ s6 = .int .i64 kk ∧ Hid (kept Wf Pf n x = kk) ∧ s5 = .slice av nn cap ∧ CInv w wr N av nn cap g L (left Wf Pf n x)) (fun _ _ s11 _ => m - (intOf s11).toNat)
  case atStart => exact ⟨0, 0, none, 0, 0, N, [], rfl, Nat.zero_le _, rfl, rfl, rfl, IdRow.start _ _, Nat.le_refl _, Below.refl _ _⟩
  case round =>
    obtain ⟨x, kk, av, nn, cap, g, L, rfl, hx, rfl, hkk, rfl, I⟩ := hrel
    have hkn : kk ≤ n := by rw [← hkk.out]; exact kept_le x
    by_cases hxm : x < m
    · have bx : (x : Int) < (m : Int) := by omega
      obtain ⟨M, hM⟩ : ∃ M, wr.heap.size = M := ⟨_, rfl⟩
      have hNM : N ≤ M := by have := I.below.size; omega
      have hWr : PRow wr aW m gW EW := hW.later (fun h => I.below.block _ (hgW h))
      have okx := hW.ok x
      go_wp2_with (first
        | (refine at_op (.indexAddr 23 (.tmp 9) (.tmp 11)) rfl ?_; refine wl_index rfl 23 (.tmp 9) (.tmp 11) rfl aW m m rfl .i64 x rfl gW 0 (hW.at_ (by omega)).out hxm 31 18 Yba.underlying23 Pe.size31 ?_)
        | (refine at_op (.load 31 (.tmp 13)) rfl ?_; refine wl_load_arr rfl 31 (.tmp 13) rfl gW (0 + x * 18) (Pe.ec (EW x)) rfl (rng_pe hWr hxm) _ Yba.underlying31 rfl (by rw [Pe.size31, Pe.ec_size okx]) ?_)
        | (refine at_op (.alloc 31) rfl ?_; refine wl_alloc rfl 31 rfl _ Pe.zero31 M hM ?_; intro w1 u1)
        | (refine at_op (.store 31 (.tmp 8) (.tmp 14)) rfl ?_; refine wl_store_row rfl 31 (.tmp 8) (.tmp 14) rfl M (Pe.ec (EW x)) (Pe.ec Pe.z0) 31 rfl rfl u1.here (by rw [Pe.ec_size okx]; rfl) (by rw [Pe.size31, Pe.ec_size okx]) (Pe.ec_one _) ?_; intro w2 u2))
      have J : CInv w w2 N av nn cap g L (left Wf Pf n x) := ⟨I.row.later (fun o ho => by have := lt_of_heap ho; exact u2.keep (by omega) (u1.keep (by omega) ho)), I.ge, (I.below.trans (u1.below (by omega))).trans (u2.below (by omega))⟩
      have hp := u2.here
      have hs2 : w2.heap.size = M + 1 := by have := u1.size; have := u2.size; omega
      clear u1 u2 I hWr hM
      have lW : (Wf x).length = 16 := by rw [← eW x]; exact okx
      have hnn : nn ≤ m := by have := J.row.len; have := left_length (W := Wf) (P := Pf) (n := n) x; omega
      simp only [Act.put, List.setIfInBounds_toArray, List.set_cons_zero, List.set_cons_succ]
      by_cases hkl : kk < n
      · have bk : (kk : Int) < (n : Int) := by omega
        have hx1 := fun (w : World) => idx_run (w := w) (t := 23) (e := 31) (cap := n) (size := 18) (hP.at_ (by omega)).out hkl Yba.underlying23 Pe.size31
        have hPr : PRow w2 aP n gP EP := hP.later (fun h => J.below.block _ (hgP h))
        have l1 : ∀ q', (Instr.loadAt 28 (.pointer (some ⟨gP, kk * 18, none⟩))).run Yba.prog (w2.drewN q') = .ok (.agg (kc (Pf kk))) (w2.drewN q') := fun q' => by rw [← eP kk]; have := ld_id (hPr.drewN q') hkl; rwa [Nat.zero_add] at this
        have l2 : ∀ q', (Instr.loadAt 28 (.pointer (some ⟨M, 0, none⟩))).run Yba.prog (w2.drewN q') = .ok (.agg (kc (Wf x))) (w2.drewN q') := fun q' => by rw [← eW x]; exact ld_id0 (w := w2.drewN q') hp okx
        have lP : (Pf kk).length = 16 := by rw [← eP kk]; exact hP.ok kk
        refine wp_region_quiet_lit (by kernel_rfl) (by kernel_rfl) ?_
        repeat (first
          | (refine wq_index 23 (.tmp 20) (.tmp 21) rfl rfl (.slice aP n n) (.int .i64 kk) (.pointer (some ⟨gP, 0 + kk * 18, none⟩)) rfl rfl hx1 ?_; simp only [Act.put, List.setIfInBounds_toArray, List.set_cons_zero, List.set_cons_succ])
          | (refine wq_load 28 (.tmp 23) rfl rfl (.pointer (some ⟨gP, kk * 18, none⟩)) (.agg (kc (Pf kk))) rfl l1 ?_; simp only [Act.put, List.setIfInBounds_toArray, List.set_cons_zero, List.set_cons_succ])
          | (refine wq_load 28 (.tmp 25) rfl rfl (.pointer (some ⟨M, 0, none⟩)) (.agg (kc (Wf x))) rfl l2 ?_; simp only [Act.put, List.setIfInBounds_toArray, List.set_cons_zero, List.set_cons_succ])
          | (refine wq_bin .eql 28 (.tmp 24) (.tmp 26) 28 rfl rfl (.agg (kc (Pf kk))) (.agg (kc (Wf x))) (.bool (Pf kk == Wf x)) rfl rfl (fun w => gd28 _ _ _ _ _ w (.inl rfl)) (fun w => eql28 _ _ lP lW w) ?_; simp only [Act.put, List.setIfInBounds_toArray, List.set_cons_zero, List.set_cons_succ])
          | go_big_quiet_step (fail))
        refine wpQuiet_nil ?_
        rintro w3 ⟨nq, rfl⟩
        have J' : CInv w (w2.drewN nq) N av nn cap g L (left Wf Pf n x) := ⟨J.row.later (fun _ h => h), J.ge, ⟨J.below.os, J.below.tape, J.below.output, J.below.size, J.below.block⟩⟩
        have hp' : (w2.drewN nq).heap[M]? = some (.cells (Pe.ec (EW x)) 31 (0, 0)) := hp
        have hs' : (w2.drewN nq).heap.size = M + 1 := hs2
        clear hx1 l1 l2 J hp hs2 hPr
        generalize w2.drewN nq = w3 at J' hp' hs' ⊢
        by_cases he : Pf kk = Wf x
        · have heq : (Pf kk == Wf x) = true := by simp [he]
          rw [heq]
          have hkt := kept_take hkk.out hkl he
          go_wp2
          go_roundw
          case rel =>
            refine ⟨x + 1, kk + 1, av, nn, cap, g, L, by go_num, by omega, by go_num, hkt.1, rfl, ?_⟩
            have : left Wf Pf n (x + 1) = left Wf Pf n x := by rw [left, hkt.2]; rfl
            rw [this]; exact J'
          case measure => simp [intOf]; omega
        · have heq : (Pf kk == Wf x) = false := by simpa using he
          rw [heq]
          have hks := kept_skip hkk.out he
          go_wp2_with (first
            | (refine at_op (.load 28 (.tmp 32)) rfl ?_; refine wl_load_agg rfl 28 (.tmp 32) rfl M 0 16 (Pe.ec (EW x)) 31 (0, 0) rfl hp' (by rw [Pe.ec_size okx]; decide) _ Yba.underlying28 rfl Id.size28 ?_; rw [Pe.ec_id okx, eW x])
            | (refine at_op (.buildSlice 32 1 #[(0, .tmp 33)]) rfl ?_; refine wl_slice1 rfl 32 (.tmp 33) rfl (.agg (kc (Wf x))) rfl 28 (slice28 _ lW) (M + 1) hs' ?_; intro w4 u4)
            | (refine at_op (.call { callee := .builtin .append, args := #[.tmp 31, .tmp 34], argTypes := #[32, 32] }) rfl ?_; refine Id.wl_append_ev rfl (.tmp 31) (.tmp 34) rfl (.slice av nn cap) nn cap g L rfl (J'.row.later (fun o ho => u4.keep (by have := lt_of_heap ho; omega) ho)).row (Wf x) lW (M + 1) 1 rfl u4.here (by omega) (M + 2) (by have := u4.size; omega) ?_; intro w5 g1 cap1 L1 A))
          go_roundw
          case rel =>
            have hg1 : N ≤ g1 := by have := J'.ge; rcases A.wh with ⟨h, _⟩ | ⟨h, _⟩ <;> omega
            refine ⟨x + 1, kk, _, nn + 1, cap1, g1, L1, by go_num, by omega, rfl, hks.1, by go_num, ?_, hg1, ?_⟩
            · have : left Wf Pf n (x + 1) = left Wf Pf n x ++ [Wf x] := by rw [left, hks.2]; rfl
              rw [this]
              exact (J'.row.later (fun o ho => u4.keep (by have := lt_of_heap ho; omega) ho)).push A
            · refine (J'.below.trans (u4.below (by omega))).trans ⟨A.os, A.tape, A.output, ?_, fun j hj => A.other j (by omega)⟩
              have := u4.size
              rcases A.wh with ⟨_, _, h⟩ | ⟨_, h⟩ <;> omega
          case measure => simp [intOf]; omega
      · obtain rfl : kk = n := by omega
        have hks : kept Wf Pf kk (x + 1) = kk ∧ met Wf Pf kk x = false := by
          have : met Wf Pf kk x = false := by simp [met, hkk.out]
          exact ⟨by rw [kept_succ, this]; simp [hkk.out], this⟩
        refine wp_region_quiet_lit (by kernel_rfl) (by kernel_rfl) ?_
        repeat (go_big_quiet_step (fail))
        refine wpQuiet_nil ?_
        rintro w3 ⟨nq, rfl⟩
        have J' : CInv w (w2.drewN nq) N av nn cap g L (left Wf Pf kk x) := ⟨J.row.later (fun _ h => h), J.ge, ⟨J.below.os, J.below.tape, J.below.output, J.below.size, J.below.block⟩⟩
        have hp' : (w2.drewN nq).heap[M]? = some (.cells (Pe.ec (EW x)) 31 (0, 0)) := hp
        have hs' : (w2.drewN nq).heap.size = M + 1 := hs2
        clear J hp hs2
        generalize w2.drewN nq = w3 at J' hp' hs' ⊢
        go_wp2_with (first
          | (refine at_op (.load 28 (.tmp 32)) rfl ?_; refine wl_load_agg rfl 28 (.tmp 32) rfl M 0 16 (Pe.ec (EW x)) 31 (0, 0) rfl hp' (by rw [Pe.ec_size okx]; decide) _ Yba.underlying28 rfl Id.size28 ?_; rw [Pe.ec_id okx, eW x])
          | (refine at_op (.buildSlice 32 1 #[(0, .tmp 33)]) rfl ?_; refine wl_slice1 rfl 32 (.tmp 33) rfl (.agg (kc (Wf x))) rfl 28 (slice28 _ lW) (M + 1) hs' ?_; intro w4 u4)
          | (refine at_op (.call { callee := .builtin .append, args := #[.tmp 31, .tmp 34], argTypes := #[32, 32] }) rfl ?_; refine Id.wl_append_ev rfl (.tmp 31) (.tmp 34) rfl (.slice av nn cap) nn cap g L rfl (J'.row.later (fun o ho => u4.keep (by have := lt_of_heap ho; omega) ho)).row (Wf x) lW (M + 1) 1 rfl u4.here (by omega) (M + 2) (by have := u4.size; omega) ?_; intro w5 g1 cap1 L1 A))
        go_roundw
        case rel =>
          have hg1 : N ≤ g1 := by have := J'.ge; rcases A.wh with ⟨h, _⟩ | ⟨h, _⟩ <;> omega
          refine ⟨x + 1, kk, _, nn + 1, cap1, g1, L1, by go_num, by omega, rfl, hks.1, by go_num, ?_, hg1, ?_⟩
          · have : left Wf Pf kk (x + 1) = left Wf Pf kk x ++ [Wf x] := by rw [left, hks.2]; rfl
            rw [this]
            exact (J'.row.later (fun o ho => u4.keep (by have := lt_of_heap ho; omega) ho)).push A
          · refine (J'.below.trans (u4.below (by omega))).trans ⟨A.os, A.tape, A.output, ?_, fun j hj => A.other j (by omega)⟩
            have := u4.size
            rcases A.wh with ⟨_, _, h⟩ | ⟨_, h⟩ <;> omega
        case measure => simp [intOf]; omega
    · obtain rfl : x = m := by omega
      obtain rfl : kk = K := hkk.out.symm.trans hK
      go_wp2_with (refine at_op (.slice 23 (.tmp 37) (some (.tmp 38)) none none) rfl ?_; refine wl_slice rfl 23 (.tmp 37) (some (.tmp 38)) none none rfl (.slice aP n n) (some (.int .i64 kk)) none none _ rfl rfl rfl rfl (slice_lo hkn _) ?_; rw [hA.out])
      go_ret2
      exact ⟨av, nn, cap, g, L, rfl, hD ▸ I⟩
end Go.Proofs.Ybulkdudm
