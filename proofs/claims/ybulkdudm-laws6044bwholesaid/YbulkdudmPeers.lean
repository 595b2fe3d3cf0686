/-
  'zzs6044bid', 'zzs6044bpeers'.
-/
import Derived.Test.YbulkdudmId
import Derived.Test.YbulkdudmPe
import Derived.Test.YbulkdudmPlain
namespace Go.Proofs.Ybulkdudm
open Go.RowKit Go.Split
open Extern.Stop (cell)
theorem mixed : Yba.prog.follows .mixedOrders = true := by kernel_rfl
theorem size5 : (Yba.prog.info? 5).map (·.size) = some 1 := by kernel_rfl
theorem size39 : (Yba.prog.info? 39).map (·.size) = some 3 := by kernel_rfl

/-- u % 5. -/
def md (u : UInt8) : UInt8 := UInt8.ofNat (u.toNat % 5)
theorem rem_run (u : UInt8) (w : World) : (binOp .rem 5 (.int .u8 u.toNat) (.int .u8 5)).run Yba.prog w = .ok (cell (md u)) w := by
  have e1 : (binOp .rem 5 (.int .u8 (u.toNat : Int)) (.int .u8 5)) = Op.intDiv .rem .u8 (u.toNat : Int) 5 := rfl
  have hu := u.toNat_lt
  have e2 : ((u.toNat : Int)).tmod 5 = ((u.toNat % 5 : Nat) : Int) := by
    rw [Int.tmod_eq_emod_of_nonneg (by omega)]
    omega
  rw [e1]
  unfold Op.intDiv
  rw [if_neg (by decide)]
  show Result.ok (Value.int .u8 ((u.toNat : Int).tmod 5)) w = _
  rw [e2]
  have e4 : (md u).toNat = u.toNat % 5 := by unfold md; rw [UInt8.toNat_ofNat']; omega
  unfold cell
  rw [e4]
  rfl
theorem guard_rem (x y : Operand) (vx vy : Value) (w : World) : (eqGuard .rem 5 x y vx vy).run Yba.prog w = .ok () w := by simp [eqGuard]
def idOf (u : UInt8) : Key := 7 :: (List.replicate 14 0 ++ [md u])
theorem idOf_length (u : UInt8) : (idOf u).length = 16 := by simp [idOf]
theorem idOf_cells (u : UInt8) : ((kc (List.replicate 16 0)).setIfInBounds 15 (cell (md u))).setIfInBounds 0 (.int .u8 7) = kc (idOf u) := by
  unfold kc idOf
  rfl

section
variable {ops : Array Oper} {rest : List Oper} {op : Oper} {a : Act} {w : World} {Q : Exit → Act → World → Prop} {P : Program}
theorem wl_bin (hw : Region.wanted op (yielded ops a.tmps) = true) (o : BinOp) (t : TypeId) (x y : Operand) (t2 : TypeId) (ho : op.op = .binOp o t x y t2) (vx vy v : Value) (hx : a.eval x = vx) (hy : a.eval y = vy)
    (hg : (eqGuard o t x y vx vy).run P w = .ok () w) (hrun : (binOp o t vx vy).run P w = .ok v w) (h : wpList P ops Q rest (a.put op.dst v) w) : wpList P ops Q (op :: rest) a w := by
  refine unguard hw (wpList_plain rfl fun K hK => ?_)
  unfold Oper.wp
  simp only [execOp, ho, hx, hy, Sem.run_bind, hg, Result.andThen_ok, hrun, Sem.run_pure]
  exact hK _ _ h
theorem wt_mv {R : World → Prop} {K : Act → Prop} (x : Operand) (ho : op.op = .move x) (hw : Region.wanted op (yielded ops a.tmps) = true) (v : Value) (hx : a.eval x = v) (h : wpTake P ops R K rest (a.put op.dst v)) : wpTake P ops R K (op :: rest) a :=
  wt_move x ho hw (by rw [hx]; exact h)
theorem ws_bin {W : World} {R : Act → Prop} (o : BinOp) (t : TypeId) (x y : Operand) (t2 : TypeId) (ho : op.op = .binOp o t x y t2) (hw : Region.wanted op (yielded ops a.tmps) = true) (vx vy v : Value) (hx : a.eval x = vx) (hy : a.eval y = vy)
    (hg : (eqGuard o t x y vx vy).run P W = .ok () W) (hrun : (binOp o t vx vy).run P W = .ok v W)
    (h : wpQuiet P ops (fun w' => w' = W) R rest (a.put op.dst v)) : wpQuiet P ops (fun w' => w' = W) R (op :: rest) a :=
  wpQuiet_step fun K hK => by
    rw [if_pos hw]
    refine ⟨v, ?_, hK _ h⟩
    rintro w1 rfl
    unfold Oper.quietAt
    simp only [execOp, ho, hx, hy, Sem.run_bind, hg, hrun, Result.andThen_ok, Sem.run_pure]
    exact ⟨rfl, rfl⟩
theorem wq_bin {R : Act → Prop} (o : BinOp) (t : TypeId) (x y : Operand) (t2 : TypeId) (ho : op.op = .binOp o t x y t2) (hw : Region.wanted op (yielded ops a.tmps) = true) (vx vy v : Value) (hx : a.eval x = vx) (hy : a.eval y = vy)
    (hg : ∀ w, (eqGuard o t x y vx vy).run P w = .ok () w) (hrun : ∀ w, (binOp o t vx vy).run P w = .ok v w)
    (h : wpQuiet P ops (fun w' => ∃ n, w' = w.drewN n) R rest (a.put op.dst v)) : wpQuiet P ops (fun w' => ∃ n, w' = w.drewN n) R (op :: rest) a :=
  wq_run _ ho hw v (fun n => by simp only [execOp, ho, hx, hy, Sem.run_bind, hg, hrun, Result.andThen_ok, Sem.run_pure]) h
end

set_option maxRecDepth 100000 in
set_option maxHeartbeats 400000 in
theorem id_any (w : World) (u : UInt8) (N : Nat) (hN : w.heap.size = N) :
    Calls Yba.prog 8 #[.int .u8 u.toNat] w fun e w1 => e = .returned (.agg (kc (idOf u))) ∧ w1.heap.size = N + 2 ∧ Below N w w1 := by
  have hz : (kc (idOf u)).size = 16 := by rw [kc_size, idOf_length]
  go_enter Yba.func8, Yba.ntmps8
  go_wp2_with (first
    | (refine at_op (.alloc 28) rfl ?_; refine wl_alloc rfl 28 rfl _ Id.zero28 N hN ?_; intro w1 u1)
    | (refine at_op (.alloc 28) rfl ?_; refine wl_alloc rfl 28 rfl _ Id.zero28 (N + 1) (u1.size_new hN) ?_; intro w2 u2)
    | (refine at_op (.binOp .rem 5 (.tmp 4) (.const (.int .u8 5)) 5) rfl ?_; refine wl_bin rfl .rem 5 (.tmp 4) (.const (.int .u8 5)) 5 rfl (.int .u8 u.toNat) (.int .u8 5) (cell (md u)) rfl rfl (guard_rem _ _ _ _ _) (rem_run u _) ?_)
    | (refine at_op (.store 5 (.tmp 6) (.tmp 5)) rfl ?_; refine wl_store1 rfl 5 (.tmp 6) (.tmp 5) rfl (N + 1) 15 (cell (md u)) (kc (List.replicate 16 0)) 28 rfl rfl u2.here (by rw [kc_size]; decide) size5 rfl ?_; intro w3 u3)
    | (refine at_op (.store 5 (.tmp 7) (.const (.int .u8 7))) rfl ?_; refine wl_store1 rfl 5 (.tmp 7) (.const (.int .u8 7)) rfl (N + 1) 0 (.int .u8 7) ((kc (List.replicate 16 0)).setIfInBounds 15 (cell (md u))) 28 rfl rfl u3.here (by simp [kc_size]) size5 rfl ?_; intro w4 u4; rw [idOf_cells] at u4)
    | (refine at_op (.load 28 (.tmp 3)) rfl ?_; refine wl_load_agg rfl 28 (.tmp 3) rfl (N + 1) 0 16 (kc (idOf u)) 28 (0, 0) rfl u4.here (by rw [hz]; decide) _ Yba.underlying28 rfl Id.size28 ?_; rw [kc_all _ (idOf_length u)])
    | (refine at_op (.store 28 (.tmp 2) (.tmp 8)) rfl ?_; refine wl_store_row rfl 28 (.tmp 2) (.tmp 8) rfl N (kc (idOf u)) (Id.ec Id.z0) 28 rfl rfl (by exact u4.keep (by omega) (u3.keep (by omega) (u2.keep (by omega) u1.here))) (by rw [hz]; rfl) (by rw [Id.size28, hz]) (Id.ec_one _) ?_; intro w5 u5))
  refine bodyPost_ret (v := .agg (kc (idOf u))) ?_ rfl ⟨rfl, ?_, ?_⟩
  · exact results_cell_row (fn := Yba.f8) rfl _ w5 N 28 (kc (idOf u)) (0, 0) _ rfl u5.here Yba.underlying28 rfl (by rw [Id.size28, hz])
  · have := u1.size; have := u2.size; have := u3.size; have := u4.size; have := u5.size; omega
  · exact ((((u1.below (by omega)).trans (u2.below (by omega))).trans (u3.below (by omega))).trans (u4.below (by omega))).trans (u5.below (by omega))

theorem ld_one {w : World} {b o : Nat} {v : Value} {t : TypeId} {d : TypeDesc} (hc : w.cell? ⟨b, o, none⟩ = some v) (hu : Yba.prog.underlying t = some d) (hd : d.isRow = false) : (Instr.loadAt t (.pointer (some ⟨b, o, none⟩))).run Yba.prog w = .ok v w := by
  have hagg : (isAgg t).run Yba.prog w = .ok false w := by
    unfold isAgg
    rw [Sem.run_bind, run_underlying hu w]
    cases d <;> simp_all
  simp only [Instr.loadAt, Instr.sureAddr, Sem.run_bind, Sem.run_pure, Result.andThen_ok]
  simp [loadVar, hagg, hc]
theorem idx_run {w : World} {t e : TypeId} {b off len cap k size : Nat} {ao : Option Addr} (hao : ao = some ⟨b, off, none⟩) (hk : k < len) (ht : Yba.prog.underlying t = some (.slice e)) (hi : (Yba.prog.info? e).map (·.size) = some size) :
    (Instr.indexAt t (.slice ao len cap) (.int .i64 k)).run Yba.prog w = .ok (.pointer (some ⟨b, off + k * size, none⟩)) w := by
  subst hao
  obtain ⟨inf, hinf, hsz⟩ := Option.map_eq_some_iff.1 hi
  simp [Instr.indexAt, asIntOf, run_underlying ht, sizeOf, typeInfo, hinf, hsz, hk, Result.andThen]
  rw [Addr.add_mid]
theorem fa39_0 (b o : Nat) (w : World) : (Instr.fieldAt 39 (.pointer (some ⟨b, o, none⟩)) 0).run Yba.prog w = .ok (.pointer (some ⟨b, o, none⟩)) w := by kernel_rfl
theorem fa39_1 (b o : Nat) (w : World) : (Instr.fieldAt 39 (.pointer (some ⟨b, o, none⟩)) 1).run Yba.prog w = .ok (.pointer (some ⟨b, o + 1, none⟩)) w := by kernel_rfl
theorem fa39_2 (b o : Nat) (w : World) : (Instr.fieldAt 39 (.pointer (some ⟨b, o, none⟩)) 2).run Yba.prog w = .ok (.pointer (some ⟨b, o + 2, none⟩)) w := by kernel_rfl
theorem list16 (l : List UInt8) (h : l.length = 16) : ∃ a0 a1 a2 a3 a4 a5 a6 a7 a8 a9 a10 a11 a12 a13 a14 a15, l = [a0, a1, a2, a3, a4, a5, a6, a7, a8, a9, a10, a11, a12, a13, a14, a15] := by
  match l, h with
  | [a0, a1, a2, a3, a4, a5, a6, a7, a8, a9, a10, a11, a12, a13, a14, a15], _ => exact ⟨a0, a1, a2, a3, a4, a5, a6, a7, a8, a9, a10, a11, a12, a13, a14, a15, rfl⟩
theorem built31 (e : Pe.Ev) (h : e.id.length = 16) : Yba.prog.built 31 [(0, .agg (kc e.id)), (1, .string e.addr), (2, .int .u64 e.start)] = some (Pe.ec e) := by
  obtain ⟨t, s, u⟩ := e
  simp only at h
  obtain ⟨a0, a1, a2, a3, a4, a5, a6, a7, a8, a9, a10, a11, a12, a13, a14, a15, rfl⟩ := list16 t h
  kernel_rfl
theorem made_ecs (n : Nat) : madeCells (Value.agg (Pe.ec Pe.z0)).cells (n * 18) = Pe.ecs (List.replicate n Pe.z0) := by
  rw [← Pe.ecs_zeros]
  have hz : (Pe.ec Pe.z0).size = 18 := Pe.ec_size rfl
  unfold Builtin.zeroCells madeCells
  simp only [Value.cells, hz]

/-- The first k of m peers are laid. -/
def rowOf (E : Nat → Pe.Ev) (m k : Nat) : List Pe.Ev := (List.range m).map fun i => if i < k then E i else Pe.z0
theorem rowOf_length (E : Nat → Pe.Ev) (m k : Nat) : (rowOf E m k).length = m := by simp [rowOf]
theorem rowOf_zero (E : Nat → Pe.Ev) (m : Nat) : rowOf E m 0 = List.replicate m Pe.z0 := by
  apply List.ext_getElem?
  intro i
  by_cases hi : i < m <;> simp [rowOf, hi]
theorem rowOf_set (E : Nat → Pe.Ev) (m k : Nat) : (rowOf E m k).set k (E k) = rowOf E m (k + 1) := by
  apply List.ext_getElem?
  intro i
  by_cases hm : i < m
  · by_cases hi : k = i
    · subst hi
      simp [rowOf, hm]
    · rw [List.getElem?_set_ne hi]
      have : (i < k) = (i < k + 1) := by apply propext; omega
      simp [rowOf, hm, this]
  · rw [List.getElem?_eq_none (by simp [rowOf]; omega), List.getElem?_eq_none (by simp [rowOf]; omega)]
theorem rowOf_ok {E : Nat → Pe.Ev} (hE : ∀ i, (E i).id.length = 16) (m k : Nat) : Pe.evsOk (rowOf E m k) := by
  intro x hx
  simp only [rowOf, List.mem_map] at hx
  obtain ⟨i, _, rfl⟩ := hx
  split
  · exact hE i
  · rfl
theorem rowOf_getD {E : Nat → Pe.Ev} {m i : Nat} (h : i < m) : (rowOf E m m).getD i Pe.z0 = E i := by simp [rowOf, List.getD, h]

/-- The cells of a drawn peer. -/
structure Src (w : World) (b o : Nat) (u : UInt8) (ad : ByteArray) (st : Int) : Prop where
  c0 : w.cell? ⟨b, o, none⟩ = some (.int .u8 u.toNat)
  c1 : w.cell? ⟨b, o + 1, none⟩ = some (.string ad)
  c2 : w.cell? ⟨b, o + 2, none⟩ = some (.int .u64 st)
theorem Src.later {w w1 : World} {b o B : Nat} {u : UInt8} {ad : ByteArray} {st : Int} (h : Src w b o u ad st) (hb : b < B) (bl : Below B w w1) : Src w1 b o u ad st :=
  ⟨(bl.cell (p := ⟨b, o, none⟩) hb).trans h.c0, (bl.cell (p := ⟨b, o + 1, none⟩) hb).trans h.c1, (bl.cell (p := ⟨b, o + 2, none⟩) hb).trans h.c2⟩

theorem eql_nil22 (a : Option Addr) (l c : Nat) (w : World) : (binOp .eql 22 (.slice a l c) (.slice none 0 0)).run Yba.prog w = .ok (.bool a.isNone) w := by cases a <;> kernel_rfl
theorem eql_nil23 (a : Option Addr) (l c : Nat) (w : World) : (binOp .eql 23 (.slice a l c) (.slice none 0 0)).run Yba.prog w = .ok (.bool a.isNone) w := by cases a <;> kernel_rfl
theorem eql_nil32 (a : Option Addr) (l c : Nat) (w : World) : (binOp .eql 32 (.slice a l c) (.slice none 0 0)).run Yba.prog w = .ok (.bool a.isNone) w := by cases a <;> kernel_rfl
theorem guard_nil (t : TypeId) (x y : Operand) (a b : Option Addr) (l c l2 c2 : Nat) (w : World) : (eqGuard .eql t x y (.slice a l c) (.slice b l2 c2)).run Yba.prog w = .ok () w := by simp [eqGuard]
theorem peers_nil (w : World) (n cap : Nat) : Calls Yba.prog 4 #[.slice none n cap] w fun r w1 => r = .returned (.slice none 0 0) ∧ w1 = w := by
  go_enter Yba.func4, Yba.ntmps4
  go_wp2_with (refine at_op (.binOp .eql 22 (.tmp 5) (.const (.slice none 0 0)) 22) rfl ?_; refine wl_bin rfl .eql 22 (.tmp 5) (.const (.slice none 0 0)) 22 rfl (.slice none n cap) (.slice none 0 0) _ rfl rfl (guard_nil _ _ _ _ _ _ _ _ _ _) (eql_nil22 _ _ _ _) ?_; simp only [Option.isNone])
  go_ret
  exact ⟨rfl, rfl⟩

/-- While the row is filled. -/
structure PInv (w wr : World) (N n k : Nat) (E : Nat → Pe.Ev) : Prop where
  row : wr.heap[N]? = some (.cells (Pe.ecs (rowOf E n k)) 31 (0, 0))
  below : Below N w wr
set_option maxRecDepth 100000 in
set_option maxHeartbeats 1000000 in
theorem peers_some (w : World) (ad : Addr) (n cap b off N : Nat) (u : Nat → UInt8) (s : Nat → ByteArray) (st : Nat → Int) (E : Nat → Pe.Ev) (hE : ∀ i, E i = ⟨idOf (u i), s i, st i⟩) (hN : w.heap.size = N)
    (hao : 0 < n → Hid (ad = ⟨b, off, none⟩)) (hb : 0 < n → b < N) (hit : ∀ i, i < n → Src w b (off + i * 3) (u i) (s i) (st i)) (hn : n ≤ 512) :
    Calls Yba.prog 4 #[.slice (some ad) n cap] w fun r w1 => r = .returned (.slice (some ⟨N, 0, none⟩) n n) ∧ PInv w w1 N n n E := by
  have hEl : ∀ i, (E i).id.length = 16 := fun i => by rw [hE i]; exact idOf_length _
  have HE : Hid _ := hE
  clear hE
  go_enter Yba.func4, Yba.ntmps4
  go_wp2_with (first
    | (refine at_op (.binOp .eql 22 (.tmp 5) (.const (.slice none 0 0)) 22) rfl ?_; refine wl_bin rfl .eql 22 (.tmp 5) (.const (.slice none 0 0)) 22 rfl (.slice (some ad) n cap) (.slice none 0 0) _ rfl rfl (guard_nil _ _ _ _ _ _ _ _ _ _) (eql_nil22 _ _ _ _) ?_; simp only [Option.isNone])
    | (refine at_op (.makeSlice 23 (.tmp 8) (.tmp 8)) rfl ?_; refine wl_make rfl (.tmp 8) (.tmp 8) 23 rfl 31 _ 18 40 Yba.underlying23 Pe.info31 .i64 .i64 n rfl rfl (by omega) (by unfold maxLen; omega) N hN ?_; intro w2 u2; rw [made_ecs] at u2))
  have I0 : PInv w w2 N n 0 E := ⟨by rw [rowOf_zero]; exact u2.here, u2.below (Nat.le_refl _)⟩
  clear u2
  go_loopw [4] (fun i wr => ∃ k : Nat, k ≤ n ∧ i = .int .i64 k ∧ PInv w wr N n k E) (fun i _ => n - (intOf i).toNat)
  case atStart => exact ⟨0, Nat.zero_le _, rfl, I0⟩
  case round =>
    obtain ⟨k, hk, rfl, I⟩ := hrel
    clear I0
    by_cases hlt : k < n
    · have hlti : (k : Int) < (n : Int) := by omega
      obtain ⟨M, hM⟩ : ∃ M, wr.drew.heap.size = M := ⟨_, rfl⟩
      have hNM : N < M := hM ▸ lt_of_heap I.row
      have hS : Src wr.drew b (off + k * 3) (u k) (s k) (st k) := (hit k hlt).later (hb (by omega)) ⟨I.below.os, I.below.tape, I.below.output, I.below.size, I.below.block⟩
      go_wp2
      refine wp_region_cutR mixed [0, 1, 2, 3, 4, 5, 6, 8, 9, 10, 11, 12, 13, 14, 15, 16, 17] [7] 18 [19, 20] (by kernel_rfl) (by kernel_rfl) (fun c a d v w h => by cases d <;> exact h) (fun w' => Src w' b (off + k * 3) (u k) (s k) (st k)) hS ?_
      simp only [List.filterMap_cons, List.filterMap_nil, List.getElem?_toArray, List.getElem?_cons_zero, List.getElem?_cons_succ]
      have hx := fun (w : World) => idx_run (w := w) (t := 22) (e := 39) (cap := cap) (size := 3) (congrArg some (hao (by omega)).out) hlt Yba.underlying22 size39
      refine wt_mv (.tmp 3) rfl rfl (.slice (some ⟨N, 0, none⟩) n n) rfl ?_
      simp only [Act.put, List.setIfInBounds_toArray, List.set_cons_zero, List.set_cons_succ]
      refine wt_mv (.tmp 4) rfl rfl (.int .i64 k) rfl ?_
      simp only [Act.put, List.setIfInBounds_toArray, List.set_cons_zero, List.set_cons_succ]
      refine wt_mv (.tmp 0) rfl rfl (.slice (some ad) n cap) rfl ?_
      simp only [Act.put, List.setIfInBounds_toArray, List.set_cons_zero, List.set_cons_succ]
      refine wt_mv (.tmp 4) rfl rfl (.int .i64 k) rfl ?_
      simp only [Act.put, List.setIfInBounds_toArray, List.set_cons_zero, List.set_cons_succ]
      refine wt_index 22 (.tmp 18) (.tmp 19) rfl rfl (.slice (some ad) n cap) (.int .i64 k) (.pointer (some ⟨b, off + k * 3, none⟩)) rfl rfl hx ?_
      simp only [Act.put, List.setIfInBounds_toArray, List.set_cons_zero, List.set_cons_succ]
      refine wt_field 39 (.tmp 20) 0 rfl rfl (.pointer (some ⟨b, off + k * 3, none⟩)) (.pointer (some ⟨b, off + k * 3, none⟩)) rfl (fun w => fa39_0 _ _ w) ?_
      simp only [Act.put, List.setIfInBounds_toArray, List.set_cons_zero, List.set_cons_succ]
      refine wt_load 5 (.tmp 21) rfl rfl (.pointer (some ⟨b, off + k * 3, none⟩)) (.int .u8 (u k).toNat) rfl (fun w h => ld_one h.c0 Yba.underlying5 rfl) ?_
      simp only [Act.put, List.setIfInBounds_toArray, List.set_cons_zero, List.set_cons_succ]
      refine wt_mv (.tmp 0) rfl rfl (.slice (some ad) n cap) rfl ?_
      simp only [Act.put, List.setIfInBounds_toArray, List.set_cons_zero, List.set_cons_succ]
      refine wt_mv (.tmp 4) rfl rfl (.int .i64 k) rfl ?_
      simp only [Act.put, List.setIfInBounds_toArray, List.set_cons_zero, List.set_cons_succ]
      refine wt_index 22 (.tmp 24) (.tmp 25) rfl rfl (.slice (some ad) n cap) (.int .i64 k) (.pointer (some ⟨b, off + k * 3, none⟩)) rfl rfl hx ?_
      simp only [Act.put, List.setIfInBounds_toArray, List.set_cons_zero, List.set_cons_succ]
      refine wt_field 39 (.tmp 26) 1 rfl rfl (.pointer (some ⟨b, off + k * 3, none⟩)) (.pointer (some ⟨b, off + k * 3 + 1, none⟩)) rfl (fun w => fa39_1 _ _ w) ?_
      simp only [Act.put, List.setIfInBounds_toArray, List.set_cons_zero, List.set_cons_succ]
      refine wt_load 9 (.tmp 27) rfl rfl (.pointer (some ⟨b, off + k * 3 + 1, none⟩)) (.string (s k)) rfl (fun w h => ld_one h.c1 Yba.underlying9 rfl) ?_
      simp only [Act.put, List.setIfInBounds_toArray, List.set_cons_zero, List.set_cons_succ]
      refine wt_mv (.tmp 0) rfl rfl (.slice (some ad) n cap) rfl ?_
      simp only [Act.put, List.setIfInBounds_toArray, List.set_cons_zero, List.set_cons_succ]
      refine wt_mv (.tmp 4) rfl rfl (.int .i64 k) rfl ?_
      simp only [Act.put, List.setIfInBounds_toArray, List.set_cons_zero, List.set_cons_succ]
      refine wt_index 22 (.tmp 29) (.tmp 30) rfl rfl (.slice (some ad) n cap) (.int .i64 k) (.pointer (some ⟨b, off + k * 3, none⟩)) rfl rfl hx ?_
      simp only [Act.put, List.setIfInBounds_toArray, List.set_cons_zero, List.set_cons_succ]
      refine wt_field 39 (.tmp 31) 2 rfl rfl (.pointer (some ⟨b, off + k * 3, none⟩)) (.pointer (some ⟨b, off + k * 3 + 2, none⟩)) rfl (fun w => fa39_2 _ _ w) ?_
      simp only [Act.put, List.setIfInBounds_toArray, List.set_cons_zero, List.set_cons_succ]
      refine wt_load 29 (.tmp 32) rfl rfl (.pointer (some ⟨b, off + k * 3 + 2, none⟩)) (.int .u64 (st k)) rfl (fun w h => ld_one h.c2 Yba.underlying29 rfl) ?_
      simp only [Act.put, List.setIfInBounds_toArray, List.set_cons_zero, List.set_cons_succ]
      refine wt_nil ?_
      refine (show wpList _ _ _ [_] _ _ from ?_)
      go_wp2_with (go_at_call 8; refine (id_any wr.drew (u k) M hM).mono ?_; rintro _ wa ⟨rfl, hsa, ba⟩)
      refine ⟨hS.later (B := M) (by have := hb (by omega); omega) ba, (show wpList _ _ _ [_, _, _] _ _ from ?_)⟩
      have ok1 := rowOf_ok hEl n k
      have zk := Pe.ec_size (hEl k)
      have z1 : 0 + k * 18 + (Pe.ec (E k)).size ≤ (Pe.ecs (rowOf E n k)).size := by rw [zk, Pe.ecs_size _ ok1, rowOf_length]; omega
      have d1 : Hid _ := Pe.ecs_set ok1 (hEl k) (i := k) (by rw [rowOf_length]; exact hlt)
      have hbt : Hid (Yba.prog.built 31 [(0, .agg (kc (idOf (u k)))), (1, .string (s k)), (2, .int .u64 (st k))] = some (Pe.ec (E k))) := by
        have := built31 (E k) (hEl k)
        rw [HE.out k] at this ⊢
        exact this
      go_wp2_with (first
        | (refine at_op (.build 31 #[(0, .tmp 23), (1, .tmp 28), (2, .tmp 33)]) rfl ?_; refine wl_build rfl 31 #[(0, .tmp 23), (1, .tmp 28), (2, .tmp 33)] rfl [(0, .agg (kc (idOf (u k)))), (1, .string (s k)), (2, .int .u64 (st k))] (Pe.ec (E k)) rfl hbt.out ?_)
        | (refine at_op (.indexAddr 23 (.tmp 16) (.tmp 17)) rfl ?_; refine wl_index rfl 23 (.tmp 16) (.tmp 17) rfl _ n n rfl .i64 k rfl N 0 rfl hlt 31 18 Yba.underlying23 Pe.size31 ?_)
        | (refine at_op (.store 31 (.tmp 35) (.tmp 34)) rfl ?_; refine wl_store_mid rfl 31 (.tmp 35) (.tmp 34) rfl N (0 + k * 18) (Pe.ec (E k)) (Pe.ecs (rowOf E n k)) 31 rfl rfl ((ba.block _ (by omega)).trans I.row) z1 (by rw [Pe.size31, zk]) (Pe.ec_one _) _ d1.out ?_; intro wb ub))
      go_roundw
      case rel =>
        refine ⟨k + 1, by omega, by go_num, ?_, I.below.trans (Below.trans (b := wa) ⟨ba.os, ba.tape, ba.output, ba.size, fun j hj => ba.block j (by omega)⟩ (ub.below (Nat.le_refl _)))⟩
        rw [← rowOf_set]
        exact ub.here
      case measure => simp [intOf]; omega
    · obtain rfl : n = k := by omega
      go_wp2
      go_ret
      exact ⟨rfl, I⟩
end Go.Proofs.Ybulkdudm
