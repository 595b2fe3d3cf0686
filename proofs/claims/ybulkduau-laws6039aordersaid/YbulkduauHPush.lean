/-
  '(*eventHeap).push': the climb.
-/
import Derived.Test.YbulkduauApp
namespace Go.Proofs.Ybulkduau
open Go.RowKit Go.Split
open Extern.Stop (cell)
theorem mixed : Yba.prog.follows .mixedOrders = true := by kernel_rfl
theorem size26 : (Yba.prog.info? 26).map (·.size) = some 1 := by kernel_rfl
theorem fa39 (b o : Nat) (w : World) : (Instr.fieldAt 39 (.pointer (some ⟨b, o, none⟩)) 0).run Yba.prog w = .ok (.pointer (some ⟨b, o, none⟩)) w := by kernel_rfl
theorem slice34 (e : Ev) (h : e.to.length = 20) (w : World) : (Instr.buildSlice 26 1 #[(0, .agg (ec e))]).run Yba.prog w = .ok (.slice (some ⟨w.heap.size, 0, none⟩) 1 1) (w.alloc (.cells (Value.agg (ec e)).cells 34)) := by
  obtain ⟨t, s, to⟩ := e
  simp only at h
  obtain ⟨a0, a1, a2, a3, a4, a5, a6, a7, a8, a9, a10, a11, a12, a13, a14, a15, a16, a17, a18, a19, rfl⟩ := list20 to h
  kernel_rfl
theorem ld26 {w : World} {b : Nat} {v : Value} (hb : w.heap[b]? = some (.cells #[v] 39 (0, 0))) : (Instr.loadAt 26 (.pointer (some ⟨b, 0, none⟩))).run Yba.prog w = .ok v w := by
  have hc : w.cell? ⟨b, 0, none⟩ = some v := by rw [cell_of_row w b 0 _ _ _ hb]; rfl
  have hagg : (isAgg 26).run Yba.prog w = .ok false w := by
    unfold isAgg
    rw [Sem.run_bind, run_underlying Yba.underlying26 w]
    rfl
  simp only [Instr.loadAt, Instr.sureAddr, Sem.run_bind, Sem.run_pure, Result.andThen_ok]
  simp [loadVar, hagg, hc]
theorem ld34 {w : World} {b : Nat} {e : Ev} {t : TypeId} {fr : Nat × Nat} (hb : w.heap[b]? = some (.cells (ec e) t fr)) (he : e.to.length = 20) : (Instr.loadAt 34 (.pointer (some ⟨b, 0, none⟩))).run Yba.prog w = .ok (.agg (ec e)) w := by
  have h2 : w.rangeAt b 0 (ec e).toList := by
    have := World.rangeAt_of_block hb 0 25
    have e1 : (ec e).extract 0 (0 + 25) = ec e := by
      have := ec_size he
      apply Array.ext'
      simp
      rw [List.take_of_length_le (by simp; omega)]
    rwa [e1] at this
  have := run_loadAt_mid (P := Yba.prog) w b 0 34 (ec e).toList _ h2 Yba.underlying34 rfl (by rw [size34]; simp [ec_size he])
  simpa using this

theorem Row.later {w w1 : World} {v : Value} {n cap g : Nat} {L : List Ev} (h : Row w v n cap g L) (hk : w.heap[g]? = some (.cells (ecs L) 34 (0, 0)) → w1.heap[g]? = some (.cells (ecs L) 34 (0, 0))) : Row w1 v n cap g L :=
  ⟨h.ok, h.len, h.le, h.max, (match h.val with | .inl hv => .inl hv | .inr ⟨h1, h2⟩ => .inr ⟨h1, hk h2⟩)⟩
theorem Appd.ne {w w1 : World} {n cap g g1 cap1 N Qb : Nat} {L L1 : List Ev} {e : Ev} (A : Appd w w1 n cap g g1 cap1 L L1 e N) (hg : g ≠ Qb) (hQ : Qb < N) : g1 ≠ Qb := by
  rcases A.wh with ⟨h, _⟩ | ⟨h, _⟩ <;> omega
/-- What the climb's loop keeps. -/
structure PInv (w1 wr : World) (Qb g n cap : Nat) (T : List Ev) (e : Ev) (i : Nat) (h : List Ev) : Prop where
  q : wr.heap[Qb]? = some (.cells #[.slice (some ⟨g, 0, none⟩) (n + 1) cap] 39 (0, 0))
  blk : wr.heap[g]? = some (.cells (ecs (h.set i e)) 34 (0, 0))
  len : h.length = cap
  ok : evsOk h
  goal : climb i h i e = T
  size : wr.heap.size = w1.heap.size
  other : ∀ k, k ≠ g → wr.heap[k]? = w1.heap[k]?
  os : wr.os = w1.os
  tape : wr.tape = w1.tape
  output : wr.output = w1.output

/-- What push leaves. -/
structure HPushed (w w1 : World) (Qb g n cap g1 cap1 N : Nat) (L1 : List Ev) (L : List Ev) (e : Ev) : Prop where
  q : w1.heap[Qb]? = some (.cells #[.slice (some ⟨g1, 0, none⟩) (n + 1) cap1] 39 (0, 0))
  row : Row w1 (.slice (some ⟨g1, 0, none⟩) (n + 1) cap1) (n + 1) cap1 g1 L1
  take : L1.take (n + 1) = climb n (L.take n ++ [e]) n e
  wh : (g1 = g ∧ 0 < cap) ∨ N ≤ g1
  lt : g1 < w1.heap.size
  size : N ≤ w1.heap.size
  other : ∀ k, k < N → k ≠ g1 → k ≠ Qb → w1.heap[k]? = w.heap[k]?
  os : w1.os = w.os
  tape : w1.tape = w.tape
  output : w1.output = w.output

theorem ecells_row {w : World} {g i : Nat} {L : List Ev} {t : TypeId} {fr : Nat × Nat} (hb : w.heap[g]? = some (.cells (ecs L) t fr)) (hok : evsOk L) (hi : i < L.length) : ECells w g (i * 25) (L.getD i z0) := by
  have hg : ∀ j, j < 25 → w.cell? ⟨g, i * 25 + j, none⟩ = (ec (L.getD i z0))[j]? := by
    intro j hj
    rw [cell_of_row w g _ _ _ _ hb, ecs_get L hok]
    have h1 : (i * 25 + j) / 25 = i := by omega
    have h2 : (i * 25 + j) % 25 = j := by omega
    rw [h1, h2]
    simp [List.getD, hi]
  exact ⟨(hg 0 (by omega)).trans (ec_t _), (hg 1 (by omega)).trans (ec_s _)⟩
theorem ld34row {w : World} {g i : Nat} {L : List Ev} {t : TypeId} {fr : Nat × Nat} (hb : w.heap[g]? = some (.cells (ecs L) t fr)) (hok : evsOk L) (hi : i < L.length) : (Instr.loadAt 34 (.pointer (some ⟨g, i * 25, none⟩))).run Yba.prog w = .ok (.agg (ec (L.getD i z0))) w := by
  have he := hok.getD i
  have h2 : w.rangeAt g (i * 25) (ec (L.getD i z0)).toList := by
    have := World.rangeAt_of_block hb (0 + i * 25) 25
    rw [ecs_extract hok hi, Nat.zero_add] at this
    exact this
  have := run_loadAt_mid (P := Yba.prog) w g (i * 25) 34 (ec (L.getD i z0)).toList _ h2 Yba.underlying34 rfl (by rw [size34, Array.length_toList, ec_size he])
  simpa using this
theorem PInv.at_ {w1 wr wx : World} {Qb g n cap : Nat} {T : List Ev} {e : Ev} {i : Nat} {h : List Ev} (I : PInv w1 wr Qb g n cap T e i h) (h1 : wx.heap = wr.heap) (h2 : wx.os = wr.os) (h3 : wx.tape = wr.tape) (h4 : wx.output = wr.output) : PInv w1 wx Qb g n cap T e i h :=
  ⟨by rw [h1]; exact I.q, by rw [h1]; exact I.blk, I.len, I.ok, I.goal, by rw [h1]; exact I.size, fun k hk => by rw [h1]; exact I.other k hk, h2.trans I.os, h3.trans I.tape, h4.trans I.output⟩
theorem PInv.up {w1 wr w2 w3 : World} {Qb g n cap : Nat} {T : List Ev} {e : Ev} {i p : Nat} {h : List Ev} (I : PInv w1 wr Qb g n cap T e i h) (hgQ : g ≠ Qb) (hi0 : 0 < i) (hp : p = (i - 1) / 2) (hd : due e (h.getD p z0) = true)
    (u2 : Upd wr w2 g (.cells (ecs ((h.set i e).set i (h.getD p z0))) 34 (0, 0))) (u3 : Upd w2 w3 g (.cells (ecs (((h.set i e).set i (h.getD p z0)).set p e)) 34 (0, 0))) :
    PInv w1 w3 Qb g n cap T e p (h.set i (h.getD p z0)) := by
  have hlt := lt_of_heap I.blk
  have s2 := u2.size; have s3 := u3.size; have s1 := I.size
  rw [List.set_set] at u3
  refine ⟨u3.keep (fun x => hgQ x.symm) (u2.keep (fun x => hgQ x.symm) I.q), u3.here, by simp [I.len], I.ok.set (I.ok.getD p) i, ?_, by omega, fun k hk => (u3.other k hk).trans ((u2.other k hk).trans (I.other k hk)), u3.os.trans (u2.os.trans I.os), u3.tape.trans (u2.tape.trans I.tape), u3.output.trans (u2.output.trans I.output)⟩
  subst hp
  rw [← climb_up hi0 hd]
  exact I.goal

theorem guard_quo (x y : Operand) (vx vy : Value) (w : World) : (eqGuard .quo 3 x y vx vy).run Yba.prog w = .ok () w := by simp [eqGuard]
theorem quo_run {k p : Nat} (hk : 0 < k) (hb : k ≤ 1048576) (hp : p = (k - 1) / 2) (w : World) : (binOp .quo 3 (.int .i64 ((k : Int) - 1)) (.int .i64 2)).run Yba.prog w = .ok (.int .i64 (p : Int)) w := by
  have e1 : (binOp .quo 3 (.int .i64 ((k : Int) - 1)) (.int .i64 2)) = Op.intDiv .quo .i64 ((k : Int) - 1) 2 := rfl
  have e2 : ((k : Int) - 1).tdiv 2 = (p : Int) := by
    rw [Int.tdiv_eq_ediv_of_nonneg (by omega)]
    omega
  have e3 : IntKind.i64.wrap (p : Int) = p := by rw [IntKind.wrap_i64]; omega
  rw [e1]
  unfold Op.intDiv
  rw [if_neg (by decide)]
  show Result.ok (Value.int .i64 (IntKind.i64.wrap (((k : Int) - 1).tdiv 2))) w = _
  rw [e2, e3]
theorem appd_last {w w1 : World} {n cap g g1 cap1 N : Nat} {L L1 : List Ev} {e : Ev} (A : Appd w w1 n cap g g1 cap1 L L1 e N) : L1[n]? = some e := by
  have h1 : (L1.take (n + 1))[n]? = L1[n]? := List.getElem?_take_of_lt (by omega)
  have hl : (L.take n).length = n ∨ (L.take n).length < n := by simp; omega
  rw [← h1, A.take]
  have hlen := congrArg List.length A.take
  have := A.len; have := A.le
  simp at hlen
  have e1 : (L.take n).length = n := by simp; omega
  rw [List.getElem?_append_right (by omega), e1]
  simp
theorem push_done {w w1 w2 w3 w4 : World} {Qb g n cap g1 cap1 N : Nat} {L L1 : List Ev} {e : Ev} (hgQ : g ≠ Qb) (lQ : Qb < N) (A : Appd w2 w3 n cap g g1 cap1 L L1 e (N + 2)) (u1 : Upd w w1 N (.cells (ec e) 34 (0, 0))) (u2 : Upd w1.drew w2 (N + 1) (.cells (ec e) 34 (0, 0)))
    (u4 : Upd w3 w4 Qb (.cells #[.slice (some ⟨g1, 0, none⟩) (n + 1) cap1] 39 (0, 0))) (hN : w.heap.size = N) :
    ∀ (wr : World) (k : Nat) (h : List Ev), k ≤ n → PInv w4 wr Qb g1 n cap1 (climb n L1 n e) e k h → climb k h k e = h.set k e → HPushed w wr Qb g n cap g1 cap1 N (h.set k e) L e := by
  intro wr k h hk I hc
  have hT : h.set k e = climb n L1 n e := hc.symm.trans I.goal
  have hg1 := A.ne hgQ (by omega)
  have s1 := u1.size; have s2 := u2.size; have s4 := u4.size; have sr := I.size
  have sd : w1.drew.heap.size = w1.heap.size := rfl
  have hlen := I.len; have hle := A.le
  have hok : evsOk (h.set k e) := by
    have hel : (L1[n]?) = some e := appd_last A
    have : e ∈ L1 := List.mem_of_getElem? hel
    exact I.ok.set (A.ok e this) k
  have hlt := lt_of_heap I.blk
  refine ⟨I.q, ⟨hok, by simp [I.len], A.le, A.max, .inr ⟨rfl, I.blk⟩⟩, ?_, ?_, hlt, ?_, ?_, ?_, ?_, ?_⟩
  · rw [hT, climb_take _ _ _ _ _ (by omega), A.take]
  · rcases A.wh with ⟨h1, h2, _⟩ | ⟨h1, _⟩
    · exact .inl ⟨h1, h2⟩
    · exact .inr (by omega)
  · rcases A.wh with ⟨_, _, h3⟩ | ⟨_, h3⟩ <;> omega
  · intro j hj h1 h2
    rw [I.other j h1, u4.other j h2, A.other j h1, u2.other j (by omega)]
    exact u1.other j (by omega)
  · rw [I.os, u4.os, A.os, u2.os]; exact u1.os
  · rw [I.tape, u4.tape, A.tape, u2.tape]; exact u1.tape
  · rw [I.output, u4.output, A.output, u2.output]; exact u1.output

set_option maxRecDepth 100000 in
set_option maxHeartbeats 2000000 in
theorem hpush_any (w : World) (Qb g n cap N : Nat) (v : Value) (L : List Ev) (e : Ev) (he : e.to.length = 20) (hN : w.heap.size = N) (hQ : w.heap[Qb]? = some (.cells #[v] 39 (0, 0))) (hR : Row w v n cap g L) (hgQ : g ≠ Qb) (hn : n ≤ 1048576) :
    Calls Yba.prog 9 #[.pointer (some ⟨Qb, 0, none⟩), .agg (ec e)] w fun r w1 => r = .returned (.tuple #[]) ∧ ∃ g1 cap1 L1, HPushed w w1 Qb g n cap g1 cap1 N L1 L e := by
  have lQ : Qb < N := hN ▸ lt_of_heap hQ
  go_enter Yba.func9, Yba.ntmps9
  go_wp2_with (first
    | (refine at_op (.box 34 (.tmp 1)) rfl ?_; refine wl_box rfl 34 (.tmp 1) rfl (.agg (ec e)) rfl N hN ?_; intro w1 u1))
  have hQ1 := u1.keep (by omega) hQ
  simp only [Act.put]
  refine wp_region_cutR mixed [0, 1, 2, 3, 4, 5] [6] 7 [8, 9, 10] (by kernel_rfl) (by kernel_rfl) (fun c a d v w h => by cases d <;> exact h) (fun w' => w'.heap[Qb]? = some (.cells #[v] 39 (0, 0)) ∧ w'.heap[N]? = some (.cells (ec e) 34 (0, 0))) ⟨hQ1, u1.here⟩ ?_
  simp only [List.filterMap_cons, List.filterMap_nil, List.getElem?_toArray, List.getElem?_cons_zero, List.getElem?_cons_succ]
  refine wt_move (.tmp 0) rfl rfl ?_
  refine wt_move (.tmp 0) rfl rfl ?_
  refine wt_nilCheck (.tmp 7) rfl rfl ⟨Qb, 0, none⟩ rfl ?_
  refine wt_field 39 (.tmp 8) 0 rfl rfl (.pointer (some ⟨Qb, 0, none⟩)) (.pointer (some ⟨Qb, 0, none⟩)) rfl (fun w => fa39 Qb 0 w) ?_
  refine wt_load 26 (.tmp 9) rfl rfl (.pointer (some ⟨Qb, 0, none⟩)) v rfl (fun w h => ld26 h.1) ?_
  refine wt_load 34 (.tmp 3) rfl rfl (.pointer (some ⟨N, 0, none⟩)) (.agg (ec e)) rfl (fun w h => ld34 h.2 he) ?_
  refine wt_nil ?_
  simp only [Act.put, Act.eval, List.setIfInBounds_toArray, List.set_cons_zero, List.set_cons_succ]
  refine (show wpList _ _ _ [_] _ _ from ?_)
  refine wl_slice1 rfl 26 (.tmp 11) rfl (.agg (ec e)) rfl 34 (slice34 e he) (N + 1) (show w1.heap.size = N + 1 from u1.size_new hN) ?_
  intro w2 u2
  refine wpList_nil ⟨⟨u2.keep (by omega) hQ1, u2.keep (by omega) u1.here⟩, ?_⟩
  refine (show wpList _ _ _ [_, _, _, _] _ _ from ?_)
  have hR2 : Row w2 v n cap g L := hR.later (fun hg => u2.keep (by have := lt_of_heap hg; omega) (show w1.drew.heap[g]? = _ from u1.keep (by have := lt_of_heap hg; omega) hg))
  have hs2 : w2.heap.size = N + 2 := by have := u2.size; have := u1.size; have : w1.drew.heap.size = w1.heap.size := rfl; omega
  go_wp2_with (first
    | (refine at_op (.call { callee := .builtin .append, args := #[.tmp 10, .tmp 12], argTypes := #[26, 26] }) rfl ?_; refine wl_append_ev rfl (.tmp 10) (.tmp 12) rfl v n cap g L rfl hR2 e he (N + 1) 1 rfl u2.here hn (N + 2) hs2 ?_; intro w3 g1 cap1 L1 A; have hg1 : g1 ≠ Qb := A.ne hgQ (by omega))
    | (refine at_op (.store 26 (.tmp 15) (.tmp 13)) rfl ?_; refine wl_store1 rfl 26 (.tmp 15) (.tmp 13) rfl Qb 0 (.slice (some ⟨g1, 0, none⟩) (n + 1) cap1) #[v] 39 rfl rfl (by exact (A.other Qb (fun e => hg1 e.symm)).trans (u2.keep (by omega) hQ1)) (by simp) size26 rfl ?_; intro w4 u4; have hcQ : w4.cell? ⟨Qb, 0, none⟩ = some (.slice (some ⟨g1, 0, none⟩) (n + 1) cap1) := (cell_of_row w4 Qb 0 _ _ _ u4.here).trans rfl))
  have hbk : w4.heap[g1]? = some (.cells (ecs L1) 34 (0, 0)) := u4.keep hg1 A.blk
  have hI0 : PInv w4 w4 Qb g1 n cap1 (climb n L1 n e) e n L1 := ⟨u4.here, by rw [set_self (appd_last A)]; exact hbk, A.len, A.ok, rfl, rfl, fun _ _ => rfl, rfl, rfl, rfl⟩
  have hDone := push_done hgQ lQ A u1 u2 u4 hN
  have hcap := A.le
  clear hcQ hbk hQ1 hR2 hs2 A u1 u2 u4 hR
  go_loopw [4] (fun i wr => ∃ (k : Nat) (h : List Ev), k ≤ n ∧ i = .int .i64 k ∧ PInv w4 wr Qb g1 n cap1 (climb n L1 n e) e k h) (fun i _ => (intOf i).toNat)
  case atStart => exact ⟨n, L1, Nat.le_refl _, rfl, hI0⟩
  case round =>
    obtain ⟨k, h, hk, rfl, I⟩ := hrel
    clear hI0
    by_cases hk0 : 0 < k
    · have b0 : (0 : Int) < (k : Int) := by omega
      obtain ⟨p, hp⟩ : ∃ p, p = (k - 1) / 2 := ⟨_, rfl⟩
      have HP : Hid (p = (k - 1) / 2) := hp
      have hpk : p < k := by omega
      have hq : ∀ w : World, (binOp .quo 3 (.int .i64 ((k : Int) - 1)) (.int .i64 2)).run Yba.prog w = .ok (.int .i64 (p : Int)) w := fun w => quo_run hk0 (by omega) hp w
      clear hp
      go_wp2_with (first
        | (refine at_op (.binOp .quo 3 (.tmp 25) (.const (.int .i64 2)) 3) rfl ?_; refine wl_bin rfl .quo 3 (.tmp 25) (.const (.int .i64 2)) 3 rfl (.int .i64 ((k : Int) - 1)) (.int .i64 2) (.int .i64 (p : Int)) rfl rfl (guard_quo _ _ _ _ _) (hq _) ?_))
      have hcl := I.len
      have bi0 : (0 : Int) ≤ (k : Int) := by omega
      have bi1 : (k : Int) < (n : Int) + 1 := by omega
      have bp0 : (0 : Int) ≤ (p : Int) := by omega
      have bp1 : (p : Int) < (n : Int) + 1 := by omega
      have hcQ : wr.drew.cell? ⟨Qb, 0, none⟩ = some (.slice (some ⟨g1, 0, none⟩) (n + 1) cap1) := (cell_of_row wr Qb 0 _ _ _ I.q).trans rfl
      refine wp_region_cut mixed [0, 1, 2, 3, 4, 5, 6, 7, 8, 9, 10, 11] 12 [13] (by kernel_rfl) (by kernel_rfl) (fun c a d v w h => by cases d <;> exact h) ?_
      simp only [List.filterMap_cons, List.filterMap_nil, List.getElem?_toArray, List.getElem?_cons_zero, List.getElem?_cons_succ]
      refine (show wpQuiet _ _ _ _ [_, _, _, _, _, _, _, _, _, _, _, _] _ from ?_)
      repeat (first | go_big_quiet_step (fail))
      refine wpQuiet_nil (show wpList _ _ _ [_, _] _ _ from ?_)
      have hokS : evsOk (h.set k e) := I.ok.set he k
      have hlS : (h.set k e).length = cap1 := by simp [I.len]
      have x1 := ecells_row (w := wr.drew) (i := k) I.blk hokS (by omega)
      have x2 := ecells_row (w := wr.drew) (i := p) I.blk hokS (by omega)
      rw [getD_set_eq e (by omega)] at x1
      rw [getD_set_ne e (by omega)] at x2
      cases hdue : due e (h.getD p z0) with
      | false =>
        go_wp2_with (go_at_call 14; refine (before_any _ e (h.getD p z0) g1 (k * 25) g1 (p * 25) x1 x2).mono ?_; rintro _ w5 ⟨rfl, nn, rfl⟩; rw [hdue])
        go_end0
        exact ⟨rfl, g1, cap1, _, hDone _ k h hk (I.at_ rfl rfl rfl rfl) (climb_stop (fun _ => by rw [← HP.out]; exact hdue))⟩
      | true =>
        go_wp2_with (go_at_call 14; refine (before_any _ e (h.getD p z0) g1 (k * 25) g1 (p * 25) x1 x2).mono ?_; rintro _ w5 ⟨rfl, nn, rfl⟩; rw [hdue])
        have J := I.at_ (wx := wr.drewN (1 + nn)) rfl rfl rfl rfl
        clear I hcQ x1 x2
        generalize hwx : wr.drewN (1 + nn) = wx at J ⊢
        clear hwx
        have hcQ : wx.drew.cell? ⟨Qb, 0, none⟩ = some (.slice (some ⟨g1, 0, none⟩) (n + 1) cap1) := (cell_of_row wx Qb 0 _ _ _ J.q).trans rfl
        have l1 : (Instr.loadAt 34 (.pointer (some ⟨g1, p * 25, none⟩))).run Yba.prog wx.drew = .ok (.agg (ec (h.getD p z0))) wx.drew := by
          have := ld34row (w := wx.drew) (i := p) J.blk hokS (by omega)
          rwa [getD_set_ne e (by omega)] at this
        have l2 : (Instr.loadAt 34 (.pointer (some ⟨g1, k * 25, none⟩))).run Yba.prog wx.drew = .ok (.agg (ec e)) wx.drew := by
          have := ld34row (w := wx.drew) (i := k) J.blk hokS (by omega)
          rwa [getD_set_eq e (by omega)] at this
        refine wp_region_cut mixed [0, 1, 2, 3, 4, 5, 6, 7, 8, 9, 10, 11, 12, 13, 14, 15, 16, 17, 18, 19, 20, 21, 22, 23, 24] 25 [26, 27] (by kernel_rfl) (by kernel_rfl) (fun c a d v w h => by cases d <;> exact h) ?_
        simp only [List.filterMap_cons, List.filterMap_nil, List.getElem?_toArray, List.getElem?_cons_zero, List.getElem?_cons_succ]
        refine (show wpQuiet _ _ _ _ [_, _, _, _, _, _, _, _, _, _, _, _, _, _, _, _, _, _, _, _, _, _, _, _, _] _ from ?_)
        repeat (first
          | go_big_quiet_step (fail)
          | (refine ws_load 34 (.tmp 56) rfl rfl (.pointer (some ⟨g1, p * 25, none⟩)) (.agg (ec (h.getD p z0))) rfl l1 ?_; simp only [Act.put, List.setIfInBounds_toArray, List.set_cons_zero, List.set_cons_succ])
          | (refine ws_load 34 (.tmp 63) rfl rfl (.pointer (some ⟨g1, k * 25, none⟩)) (.agg (ec e)) rfl l2 ?_; simp only [Act.put, List.setIfInBounds_toArray, List.set_cons_zero, List.set_cons_succ]))
        refine wpQuiet_nil (show wpList _ _ _ [_, _, _] _ _ from ?_)
        have hep := J.ok.getD p
        have hok2 : evsOk ((h.set k e).set k (h.getD p z0)) := hokS.set hep k
        have d1 : putCells (ecs (h.set k e)) (k * 25) (ec (h.getD p z0)).toList = ecs ((h.set k e).set k (h.getD p z0)) := by have := ecs_set hokS hep (i := k) (by omega); rwa [Nat.zero_add] at this
        have d2 : putCells (ecs ((h.set k e).set k (h.getD p z0))) (p * 25) (ec e).toList = ecs (((h.set k e).set k (h.getD p z0)).set p e) := by have := ecs_set hok2 he (i := p) (by simp; omega); rwa [Nat.zero_add] at this
        have D1 : Hid _ := d1
        have D2 : Hid _ := d2
        have z1 : k * 25 + (ec (h.getD p z0)).size ≤ (ecs (h.set k e)).size := by rw [ec_size hep, ecs_size _ hokS]; omega
        have z2 : p * 25 + (ec e).size ≤ (ecs ((h.set k e).set k (h.getD p z0))).size := by rw [ec_size he, ecs_size _ hok2]; simp; omega
        clear d1 d2 l1 l2
        go_wp2_with (first
          | (refine at_op (.store 34 (.tmp 65) (.tmp 57)) rfl ?_; refine wl_store_mid rfl 34 (.tmp 65) (.tmp 57) rfl g1 (k * 25) (ec (h.getD p z0)) (ecs (h.set k e)) 34 rfl rfl (by exact J.blk) z1 (by rw [size34, ec_size hep]) (ec_one _) _ D1.out ?_; intro w6 u6)
          | (refine at_op (.store 34 (.tmp 66) (.tmp 64)) rfl ?_; refine wl_store_mid rfl 34 (.tmp 66) (.tmp 64) rfl g1 (p * 25) (ec e) (ecs ((h.set k e).set k (h.getD p z0))) 34 rfl rfl u6.here z2 (by rw [size34, ec_size he]) (ec_one _) _ D2.out ?_; intro w7 u7))
        go_roundw
        case rel => exact ⟨p, _, by omega, rfl, (J.at_ (wx := wx.drew) rfl rfl rfl rfl).up hg1 hk0 HP.out hdue u6 u7⟩
        case measure => simp [intOf]; omega
    · obtain rfl : k = 0 := by omega
      go_wp2
      go_end0
      exact ⟨rfl, g1, cap1, _, hDone _ 0 h hk I (climb_stop (fun h => by omega))⟩
end Go.Proofs.Ybulkduau
