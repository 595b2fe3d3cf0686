/-
  'sim.LawS6039AOrder': the walk.
-/
import Derived.Test.YbulkduauHPush
namespace Go.Proofs.Ybulkduau
open Go.RowKit Go.Split
open Extern.Stop (cell)

theorem ws_bin {P : Program} {ops : Array Oper} {W : World} {R : Act → Prop} {rest : List Oper} {op : Oper} {a : Act} (o : BinOp) (t : TypeId) (x y : Operand) (t2 : TypeId) (ho : op.op = .binOp o t x y t2) (hw : Region.wanted op (yielded ops a.tmps) = true) (vx vy v : Value) (hx : a.eval x = vx) (hy : a.eval y = vy)
    (hg : (eqGuard o t x y vx vy).run P W = .ok () W) (hrun : (binOp o t vx vy).run P W = .ok v W)
    (h : wpQuiet P ops (fun w' => w' = W) R rest (a.put op.dst v)) : wpQuiet P ops (fun w' => w' = W) R (op :: rest) a :=
  wpQuiet_step fun K hK => by
    rw [if_pos hw]
    refine ⟨v, ?_, hK _ h⟩
    rintro w1 rfl
    unfold Oper.quietAt
    simp only [execOp, ho, hx, hy, Sem.run_bind, hg, hrun, Result.andThen_ok, Sem.run_pure]
    exact ⟨rfl, rfl⟩

theorem built39nil : Yba.prog.built 39 [] = some #[.slice none 0 0] := by kernel_rfl
theorem len_any (w : World) (Qb n cap g : Nat) (hQ : w.heap[Qb]? = some (.cells #[.slice (some ⟨g, 0, none⟩) n cap] 39 (0, 0))) :
    Calls Yba.prog 11 #[.pointer (some ⟨Qb, 0, none⟩)] w fun r w1 => r = .returned (.int .i64 n) ∧ w1 = w := by
  have hc : w.cell? ⟨Qb, 0, none⟩ = some (.slice (some ⟨g, 0, none⟩) n cap) := (cell_of_row w Qb 0 _ _ _ hQ).trans rfl
  go_enter Yba.func11, Yba.ntmps11
  go_wp2
  go_ret
  exact ⟨rfl, rfl⟩

theorem Heap.take {L : List Ev} {n : Nat} (h : Heap (L.take n) n) : Heap L n := fun j h1 h2 => by
  have := h j h1 h2
  rwa [getD_take h2, getD_take (by omega)] at this
theorem Heap.snoc {L : List Ev} {n : Nat} (e : Ev) (hl : n ≤ L.length) (h : Heap L n) : Heap (L.take n ++ [e]) n := by
  apply Heap.take
  rw [List.take_append_of_le_length (by simp; omega), List.take_take, Nat.min_self]
  intro j h1 h2
  rw [getD_take h2, getD_take (by omega)]
  exact h j h1 h2

/-- While the events are pushed. -/
structure OInv (w wr : World) (B k : Nat) (v : Value) (cap g : Nat) (L : List Ev) : Prop where
  q : wr.heap[B]? = some (.cells #[v] 39 (0, 0))
  row : Row wr v k cap g L
  gt : B < g
  heap : Heap L k
  below : Below B w wr
theorem OInv.next {w wr w1 w2 : World} {B k M cap g g1 cap1 : Nat} {v : Value} {L L1 : List Ev} {e : Ev} (I : OInv w wr B k v cap g L) (hM : wr.heap.size = M) (b1 : Below M wr w1) (A : HPushed w1 w2 B g k cap g1 cap1 (M + 3) L1 L e) (hs1 : w1.heap.size = M + 3) :
    OInv w w2 B (k + 1) (.slice (some ⟨g1, 0, none⟩) (k + 1) cap1) cap1 g1 L1 := by
  have hlt := lt_of_heap I.q
  have hgt := I.gt
  have hg1 : B < g1 := by rcases A.wh with ⟨h, _⟩ | h <;> omega
  refine ⟨A.q, A.row, hg1, ?_, ?_⟩
  · apply Heap.take
    rw [A.take]
    have hl := I.row.len; have hle := I.row.le
    exact heap_push (I.heap.snoc e (by omega)) (by simp; omega)
  · refine I.below.trans ((b1.mono (by omega)).trans ⟨A.os, A.tape, A.output, by have := A.size; omega, fun j hj => A.other j (by omega) (by omega) (by omega)⟩)

theorem OInv.later {w wr w1 : World} {B k M cap g : Nat} {v : Value} {L : List Ev} (I : OInv w wr B k v cap g L) (hM : wr.heap.size = M) (b1 : Below M wr w1) : OInv w w1 B k v cap g L := by
  have hlt := lt_of_heap I.q
  exact ⟨(b1.block _ (by omega)).trans I.q, I.row.later (fun hg => (b1.block _ (by have := lt_of_heap hg; omega)).trans hg), I.gt, I.heap, I.below.trans (b1.mono (by omega))⟩

set_option maxRecDepth 100000 in
set_option maxHeartbeats 2000000 in
theorem lawAO_any (w : World) (ao : Option Addr) (m cap b off B : Nat) (t s : Nat → Int) (u : Nat → UInt8) (hB : w.heap.size = B)
    (hao : 0 < m → Hid (ao = some ⟨b, off, none⟩)) (hb : 0 < m → b < B) (hit : ∀ i, i < m → w.rangeAt b (off + i * 3) (pc (t i) (s i) (u i).toNat).toList) (hm : m ≤ 65536) :
    Calls Yba.prog 4 #[.slice ao m cap] w fun r w1 => r = .returned (.bool true) ∧ Below B w w1 := by
  have hmi : ¬ ((65536 : Int) < (m : Int)) := by omega
  go_enter Yba.func4, Yba.ntmps4
  go_wp2_with (first
    | (refine at_op (.build 39 #[]) rfl ?_; refine wl_build rfl 39 #[] rfl [] #[.slice none 0 0] rfl built39nil ?_)
    | (refine at_op (.box 39 (.tmp 9)) rfl ?_; refine wl_box rfl 39 (.tmp 9) rfl (.agg #[.slice none 0 0]) rfl B hB ?_; intro w1 u1))
  have I0 : OInv w w1 B 0 (.slice none 0 0) 0 (B + 1) [] := ⟨u1.here, ⟨fun _ h => (by cases h), rfl, Nat.le_refl _, Nat.zero_le _, .inl ⟨rfl, rfl, rfl⟩⟩, by omega, fun j h1 h2 => by omega, u1.below (Nat.le_refl _)⟩
  clear u1
  go_loopw [4] (fun i wr => ∃ (k : Nat) (v : Value) (cap g : Nat) (L : List Ev), k ≤ m ∧ i = .int .i64 k ∧ OInv w wr B k v cap g L) (fun i _ => m - (intOf i).toNat)
  case atStart => exact ⟨0, _, _, _, _, Nat.zero_le _, rfl, I0⟩
  case round =>
    obtain ⟨k, v, cap0, g, L, hk, rfl, I⟩ := hrel
    clear I0
    by_cases hlt : k < m
    · have hlti : (k : Int) < (m : Int) := by omega
      obtain ⟨M, hM⟩ : ∃ M, wr.heap.size = M := ⟨_, rfl⟩
      have hQl := lt_of_heap I.q
      have hgt := I.gt
      have hr := Below.range I.below (hb (by omega)) (hit k hlt)
      go_wp2_with (first
        | (refine at_op (.indexAddr 22 (.tmp 18) (.tmp 19)) rfl ?_; refine wl_index rfl 22 (.tmp 18) (.tmp 19) rfl ao m cap rfl .i64 k rfl b off (hao (by omega)).out hlt 25 3 Yba.underlying22 size25 ?_)
        | (refine at_op (.load 25 (.tmp 20)) rfl ?_; refine wl_load_arr rfl 25 (.tmp 20) rfl b (off + k * 3) (pc (t k) (s k) (u k).toNat) rfl hr _ Yba.underlying25 rfl size25 ?_)
        | (go_at_call 7; refine (mk_any wr (t k) (s k) (u k) M hM).mono ?_; rintro _ wa ⟨rfl, hsa, ba⟩)
        | (go_at_call 9; refine (hpush_any wa B g k cap0 (M + 3) v L ⟨t k, s k, idOf (u k)⟩ (idOf_length _) hsa ((ba.block _ (by omega)).trans I.q) (I.row.later (fun hg => (ba.block _ (by have := lt_of_heap hg; omega)).trans hg)) (by omega) (by omega)).mono ?_; rintro _ wf ⟨rfl, g1, cap1, L1, A⟩)
        | (go_at_call 11; refine (len_any wf B (k + 1) cap1 g1 A.q).mono ?_; rintro _ wg ⟨rfl, hwg⟩; rw [hwg]; clear hwg wg))
      have N1 := I.next hM ba A hsa
      clear I A ba hr hsa hM
      have hQf := N1.q
      have hrow : wf.heap[g1]? = some (.cells (ecs L1) 34 (0, 0)) := by
        rcases N1.row.val with ⟨h, _⟩ | ⟨_, h⟩
        · cases h
        · exact h
      have okL := N1.row.ok
      have lenL := N1.row.len
      have leL := N1.row.le
      have hH := N1.heap
      have hgl := lt_of_heap hrow
      have hQl' := lt_of_heap hQf
      obtain ⟨M3, hM3⟩ : ∃ M3, wf.heap.size = M3 := ⟨_, rfl⟩
      go_loopw [5] (fun i wr => ∃ j : Nat, 1 ≤ j ∧ j ≤ k + 1 ∧ i = .int .i64 j ∧ Below M3 wf wr) (fun i _ => k + 1 - (intOf i).toNat)
      case atStart => exact ⟨1, Nat.le_refl _, by omega, rfl, Below.refl _ _⟩
      case round =>
        obtain ⟨j, hj1, hj, rfl, J⟩ := hrel
        have hc26 : wr.cell? ⟨B, 0, none⟩ = some (.slice (some ⟨g1, 0, none⟩) (k + 1) cap1) := (cell_of_row wr B 0 _ _ _ ((J.block _ (by omega)).trans hQf)).trans rfl
        by_cases hjk : j < k + 1
        · have bj : (j : Int) < (k : Int) + 1 := by omega
          have bj0 : (0 : Int) ≤ (j : Int) := by omega
          obtain ⟨p, hp⟩ : ∃ p, p = (j - 1) / 2 := ⟨_, rfl⟩
          have hdue : due (L1.getD j z0) (L1.getD p z0) = false := by rw [hp]; exact hH j hj1 hjk
          have hq : (binOp .quo 3 (.int .i64 ((j : Int) - 1)) (.int .i64 2)).run Yba.prog wr.drew = .ok (.int .i64 (p : Int)) wr.drew := quo_run (by omega) (by omega) hp _
          have bp0 : (0 : Int) ≤ (p : Int) := by omega
          have bp1 : (p : Int) < (k : Int) + 1 := by omega
          have hpj : p < k + 1 := by omega
          clear hp
          have l1 : (Instr.loadAt 34 (.pointer (some ⟨g1, j * 25, none⟩))).run Yba.prog wr.drew = .ok (.agg (ec (L1.getD j z0))) wr.drew := ld34row (w := wr.drew) (i := j) ((J.block _ (by omega)).trans hrow) okL (by omega)
          have l2 : (Instr.loadAt 34 (.pointer (some ⟨g1, p * 25, none⟩))).run Yba.prog wr.drew = .ok (.agg (ec (L1.getD p z0))) wr.drew := ld34row (w := wr.drew) (i := p) ((J.block _ (by omega)).trans hrow) okL (by omega)
          go_wp2
          have hc26d : wr.drew.cell? ⟨B, 0, none⟩ = some (.slice (some ⟨g1, 0, none⟩) (k + 1) cap1) := hc26
          refine wp_region_cut mixed [0, 1, 2, 3, 4, 5, 6, 7, 8, 9, 10, 11, 12, 13, 14, 15] 16 [] (by kernel_rfl) (by kernel_rfl) (fun c a d v w h => by cases d <;> exact h) ?_
          simp only [List.filterMap_cons, List.filterMap_nil, List.getElem?_toArray, List.getElem?_cons_zero, List.getElem?_cons_succ]
          refine (show wpQuiet _ _ _ _ [_, _, _, _, _, _, _, _, _, _, _, _, _, _, _, _] _ from ?_)
          repeat (first
            | (refine ws_bin .quo 3 (.tmp 50) (.const (.int .i64 2)) 3 rfl rfl (.int .i64 ((j : Int) - 1)) (.int .i64 2) (.int .i64 (p : Int)) rfl rfl (guard_quo _ _ _ _ _) hq ?_; simp only [Act.put, List.setIfInBounds_toArray, List.set_cons_zero, List.set_cons_succ])
            | (refine ws_load 34 (.tmp 43) rfl rfl (.pointer (some ⟨g1, j * 25, none⟩)) (.agg (ec (L1.getD j z0))) rfl l1 ?_; simp only [Act.put, List.setIfInBounds_toArray, List.set_cons_zero, List.set_cons_succ])
            | (refine ws_load 34 (.tmp 52) rfl rfl (.pointer (some ⟨g1, p * 25, none⟩)) (.agg (ec (L1.getD p z0))) rfl l2 ?_; simp only [Act.put, List.setIfInBounds_toArray, List.set_cons_zero, List.set_cons_succ])
            | go_big_quiet_step (fail))
          refine wpQuiet_nil (show wpList _ _ _ [_] _ _ from ?_)
          clear l1 l2 hc26 hc26d hq
          obtain ⟨M4, hM4⟩ : ∃ M4, wr.drew.heap.size = M4 := ⟨_, rfl⟩
          have hsw : wr.drew.heap.size = wr.heap.size := rfl
          have hsj := J.size
          go_wp2_with (go_at_call 8; refine (less_any wr.drew (L1.getD j z0) (L1.getD p z0) M4 hM4).mono ?_; rintro _ w5 ⟨rfl, hs5, b5⟩; rw [hdue])
          go_roundw
          case rel => exact ⟨j + 1, by omega, by omega, by go_num, J.trans (show Below M3 wr w5 from ⟨b5.os, b5.tape, b5.output, b5.size, fun x hx => b5.block x (by omega)⟩)⟩
          case measure => simp [intOf]; omega
        · obtain rfl : j = k + 1 := by omega
          go_wp2
          go_roundw
          case rel => exact ⟨k + 1, _, _, _, _, by omega, by go_num, N1.later hM3 J⟩
          case measure => simp [intOf]; omega
    · obtain rfl : m = k := by omega
      go_wp2
      go_ret
      exact ⟨rfl, I.below⟩
end Go.Proofs.Ybulkduau
