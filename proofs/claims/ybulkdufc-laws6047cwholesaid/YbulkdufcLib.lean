/-
  OWN LAWS FOR THE WALKS OF THIS SEAT: worlds as letters; a block known whole.
  'Upd w w1 b o': in w1 block b is o, all else is as in w.
-/
import Derived.Test.YbulkdufcRows
import Derived.WalkKit
import Derived.WalkSpells
import Derived.WalkLawsBesides
import Derived.Deep.MidRow
import Derived.Deep.Slices
import Derived.BigQuiet
namespace Go.Proofs.Ybulkdufc
open Go.RowKit

/-- Block 'b' of w1 is 'o'; every other block, and the streams, are as in w. -/
structure Upd (w w1 : World) (b : Nat) (o : Obj) : Prop where
  os : w1.os = w.os
  tape : w1.tape = w.tape
  output : w1.output = w.output
  size : w1.heap.size = max w.heap.size (b + 1)
  here : w1.heap[b]? = some o
  other : ∀ k, k ≠ b → w1.heap[k]? = w.heap[k]?

theorem Upd.keep {w w1 : World} {b : Nat} {o : Obj} (h : Upd w w1 b o) {k : Nat} {x : Obj} (hk : k ≠ b) (hx : w.heap[k]? = some x) : w1.heap[k]? = some x := (h.other k hk).trans hx

theorem Upd.below {w w1 : World} {b B : Nat} {o : Obj} (h : Upd w w1 b o) (hB : B ≤ b) : Below B w w1 :=
  ⟨h.os, h.tape, h.output, by have := h.size; omega, fun k hk => h.other k (by omega)⟩

theorem Upd.size_old {w w1 : World} {b N : Nat} {o : Obj} (h : Upd w w1 b o) (hN : w.heap.size = N) (hb : b < N) : w1.heap.size = N := by have := h.size; omega
theorem Upd.size_new {w w1 : World} {N : Nat} {o : Obj} (h : Upd w w1 N o) (hN : w.heap.size = N) : w1.heap.size = N + 1 := by have := h.size; omega

theorem lt_of_heap {w : World} {b : Nat} {o : Obj} (h : w.heap[b]? = some o) : b < w.heap.size := by
  rcases Nat.lt_or_ge b w.heap.size with hl | hg
  · exact hl
  · rw [Array.getElem?_eq_none hg] at h; cases h

theorem upd_alloc (w : World) (o : Obj) : Upd w (w.alloc o) w.heap.size o :=
  ⟨rfl, rfl, rfl, by simp, heap_alloc_new w o, fun k hk => by
    show (w.heap.push o)[k]? = _
    rw [Array.getElem?_push, if_neg (by omega)]⟩

theorem upd_setRow (w : World) (b : Nat) (C D : Array Value) (t : TypeId) (fr : Nat × Nat) (hb : w.heap[b]? = some (.cells C t fr)) : Upd w (w.setRow b D) b (.cells D t fr) :=
  ⟨rfl, rfl, rfl, by have := lt_of_heap hb; simp; omega, setRow_heap w b C D t fr hb, fun k hk => setRow_other w b k D hk⟩

theorem upd_setCell (w : World) (b i : Nat) (C : Array Value) (t : TypeId) (fr : Nat × Nat) (v : Value) (hb : w.heap[b]? = some (.cells C t fr)) :
    Upd w (w.setCell ⟨b, i, none⟩ v) b (.cells (C.setIfInBounds i v) t fr) := by
  rw [setCell_eq_setRow w b i C t fr v hb]
  exact upd_setRow w b C _ t fr hb

section
variable {P : Program} {ops : Array Oper} {rest : List Oper} {op : Oper} {a : Act} {w : World} {Q : Exit → Act → World → Prop}

/-- A cheap guard ahead of a law: the operation that stands next. -/
theorem at_op (o : Op) (_ : op.op = o) (h : wpList P ops Q (op :: rest) a w) : wpList P ops Q (op :: rest) a w := h

/-- A guarded operation whose guard says yes is as one without a guard. -/
theorem unguard (hw : Region.wanted op (yielded ops a.tmps) = true) (h : wpList P ops Q ({ op with guard := .none } :: rest) a w) : wpList P ops Q (op :: rest) a w := by
  unfold wpList at h ⊢
  rw [if_pos (by rfl)] at h
  rw [if_pos hw]
  exact h

/-- 'var x T', its address taken; 'x := ..' of a struct. -/
theorem wl_alloc (hgd : op.guard = none) (t : TypeId) (ho : op.op = .alloc t) (z : Value) (hz : (P.info? t).map (·.zero) = some (some z)) (N : Nat) (hN : w.heap.size = N)
    (h : ∀ w1, Upd w w1 N (.cells z.cells t (0, 0)) → wpList P ops Q rest (a.put op.dst (.pointer (some ⟨N, 0, none⟩))) w1) : wpList P ops Q (op :: rest) a w := by
  refine wpList_plain hgd fun K hK => ?_
  subst hN
  obtain ⟨i, hi, hz'⟩ := Option.map_eq_some_iff.1 hz
  unfold Oper.wp
  simp [execOp, ho, Instr.alloc, zeroValue, typeInfo, hi, hz', newVar, newRow, newObj, Result.andThen]
  exact hK _ _ (h _ (upd_alloc w _))

/-- '&T{..}'; a parameter that is boxed. -/
theorem wl_box (hgd : op.guard = none) (t : TypeId) (x : Operand) (ho : op.op = .box t x) (v : Value) (hv : a.eval x = v) (N : Nat) (hN : w.heap.size = N)
    (h : ∀ w1, Upd w w1 N (.cells v.cells t (0, 0)) → wpList P ops Q rest (a.put op.dst (.pointer (some ⟨N, 0, none⟩))) w1) : wpList P ops Q (op :: rest) a w := by
  refine wpList_plain hgd fun K hK => ?_
  subst hN
  unfold Oper.wp
  simp [execOp, ho, hv, Instr.box, newVar, newRow, newObj, Result.andThen]
  exact hK _ _ (h _ (upd_alloc w _))

/-- A whole variable is stored over. -/
theorem wl_store_row (hgd : op.guard = none) (ty : TypeId) (x y : Operand) (ho : op.op = .store ty x y) (b : Nat) (cells C : Array Value) (t : TypeId) (hx : a.eval x = .pointer (some ⟨b, 0, none⟩)) (hy : a.eval y = .agg cells)
    (hb : w.heap[b]? = some (.cells C t (0, 0))) (hs : cells.size = C.size) (hi : (P.info? ty).map (·.size) = some cells.size) (h1 : cells.all (·.oneCell') = true)
    (h : ∀ w1, Upd w w1 b (.cells cells t (0, 0)) → wpList P ops Q rest (a.put op.dst undef) w1) : wpList P ops Q (op :: rest) a w :=
  wpList_store_row hgd ty x y ho b cells hx hy t C hb hi hs.symm h1 (h _ (upd_setRow w b C cells t (0, 0) hb))

/-- One cell is stored into a block that is known whole. -/
theorem wl_store1 (hgd : op.guard = none) (ty : TypeId) (x y : Operand) (ho : op.op = .store ty x y) (b i : Nat) (v : Value) (C : Array Value) (t : TypeId) (hx : a.eval x = .pointer (some ⟨b, i, none⟩)) (hy : a.eval y = v)
    (hb : w.heap[b]? = some (.cells C t (0, 0))) (hlt : i < C.size) (hi : (P.info? ty).map (·.size) = some 1) (h1 : v.oneCell' = true)
    (h : ∀ w1, Upd w w1 b (.cells (C.setIfInBounds i v) t (0, 0)) → wpList P ops Q rest (a.put op.dst undef) w1) : wpList P ops Q (op :: rest) a w := by
  refine wpList_plain hgd fun K hK => ?_
  have hc : v.cells = #[v] := by cases v <;> first | rfl | (simp [Value.oneCell'] at h1)
  have hcell : (w.cell? ⟨b, i + 0 + 0, none⟩).isSome = true := by
    rw [cell_of_row w b (i + 0 + 0) C t (0, 0) hb]; simp [hlt]
  have hst := run_storeCells_cells (P := P) b i [v] 0 w (fun j hj => by obtain rfl : j = 0 := by simpa using hj
                                                                        exact hcell)
    (fun j hj => frozen_of_row w b _ C t hb) (fun u hu => by obtain rfl : u = v := by simpa using hu
                                                             exact h1)
  obtain ⟨inf, hinf, hsz⟩ := Option.map_eq_some_iff.1 hi
  unfold Oper.wp
  simp only [execOp, ho, hx, hy, Instr.storeAt, Instr.sureAddr, Sem.run_bind, Sem.run_pure, Result.andThen_ok]
  simp [storeVar, sizeOf, typeInfo, hinf, hsz, hc, hst, World.setCells, Result.andThen]
  exact hK _ _ (h _ (upd_setCell w b i C t (0, 0) v hb))

/-- Several cells at once are read out of the middle of a block that is known whole. -/
theorem wl_load_agg (hgd : op.guard = none) (ty : TypeId) (x : Operand) (ho : op.op = .load ty x) (b o n : Nat) (C : Array Value) (t : TypeId) (fr : Nat × Nat) (hx : a.eval x = .pointer (some ⟨b, o, none⟩))
    (hb : w.heap[b]? = some (.cells C t fr)) (hle : o + n ≤ C.size) (d : TypeDesc) (hu : P.underlying ty = some d) (hd : d.isRow = true) (hi : (P.info? ty).map (·.size) = some n)
    (h : wpList P ops Q rest (a.put op.dst (.agg (C.extract o (o + n)))) w) : wpList P ops Q (op :: rest) a w :=
  wpList_load_mid hgd ty x ho b o hx (C.extract o (o + n)).toList d (World.rangeAt_of_block hb o n) hu hd (by rw [hi]; simp; omega) (by rw [Array.toArray_toList]; exact h)

/-- Several cells at once, wherever they lie. -/
theorem wl_load_arr (hgd : op.guard = none) (ty : TypeId) (x : Operand) (ho : op.op = .load ty x) (b o : Nat) (C : Array Value) (hx : a.eval x = .pointer (some ⟨b, o, none⟩))
    (hr : w.rangeAt b o C.toList) (d : TypeDesc) (hu : P.underlying ty = some d) (hd : d.isRow = true) (hi : (P.info? ty).map (·.size) = some C.size)
    (h : wpList P ops Q rest (a.put op.dst (.agg C)) w) : wpList P ops Q (op :: rest) a w :=
  wpList_load_mid hgd ty x ho b o hx C.toList d hr hu hd (by rw [hi]; simp) (by rw [Array.toArray_toList]; exact h)

/-- One cell is read out of a block that is known whole. -/
theorem wl_load1 (hgd : op.guard = none) (ty : TypeId) (x : Operand) (ho : op.op = .load ty x) (b i : Nat) (C : Array Value) (t : TypeId) (fr : Nat × Nat) (v : Value) (hx : a.eval x = .pointer (some ⟨b, i, none⟩))
    (hb : w.heap[b]? = some (.cells C t fr)) (hv : C[i]? = some v) (d : TypeDesc) (hu : P.underlying ty = some d) (hd : d.isRow = false)
    (h : wpList P ops Q rest (a.put op.dst v) w) : wpList P ops Q (op :: rest) a w := by
  refine wpList_plain hgd fun K hK => ?_
  have hcell : w.cell? ⟨b, i, none⟩ = some v := by rw [cell_of_row w b i C t fr hb, hv]
  have hagg : (isAgg ty).run P w = .ok false w := by
    unfold isAgg
    rw [Sem.run_bind, run_underlying hu w]
    cases d <;> simp_all
  unfold Oper.wp
  simp only [execOp, ho, hx, Instr.loadAt, Instr.sureAddr, Sem.run_bind, Sem.run_pure, Result.andThen_ok]
  simp [loadVar, hagg, hcell, Result.andThen]
  exact hK _ _ h

/-- One cell is read, wherever it lies. -/
theorem wl_load_cell (hgd : op.guard = none) (ty : TypeId) (x : Operand) (ho : op.op = .load ty x) (b i : Nat) (v : Value) (hx : a.eval x = .pointer (some ⟨b, i, none⟩))
    (hcell : w.cell? ⟨b, i, none⟩ = some v) (d : TypeDesc) (hu : P.underlying ty = some d) (hd : d.isRow = false)
    (h : wpList P ops Q rest (a.put op.dst v) w) : wpList P ops Q (op :: rest) a w := by
  refine wpList_plain hgd fun K hK => ?_
  have hagg : (isAgg ty).run P w = .ok false w := by
    unfold isAgg
    rw [Sem.run_bind, run_underlying hu w]
    cases d <;> simp_all
  unfold Oper.wp
  simp only [execOp, ho, hx, Instr.loadAt, Instr.sureAddr, Sem.run_bind, Sem.run_pure, Result.andThen_ok]
  simp [loadVar, hagg, hcell, Result.andThen]
  exact hK _ _ h

/-- 'x[k]' of a slice, its address. -/
theorem wl_index (hgd : op.guard = none) (t : TypeId) (x ix : Operand) (ho : op.op = .indexAddr t x ix) (ao : Option Addr) (len cap : Nat) (hx : a.eval x = .slice ao len cap) (kk : IntKind) (k : Nat) (hix : a.eval ix = .int kk k)
    (b off : Nat) (hao : ao = some ⟨b, off, none⟩) (hk : k < len) (e : TypeId) (size : Nat) (ht : P.underlying t = some (.slice e)) (hi : (P.info? e).map (·.size) = some size)
    (h : wpList P ops Q rest (a.put op.dst (.pointer (some ⟨b, off + k * size, none⟩))) w) : wpList P ops Q (op :: rest) a w := by
  refine wpList_plain hgd fun K hK => ?_
  subst hao
  obtain ⟨inf, hinf, hsz⟩ := Option.map_eq_some_iff.1 hi
  unfold Oper.wp
  simp [execOp, ho, hx, hix, Instr.indexAt, asIntOf, run_underlying ht, sizeOf, typeInfo, hinf, hsz, hk, Result.andThen]
  rw [Addr.add_mid]
  exact hK _ _ h

/-- 'T{..}'. -/
theorem wl_build (hgd : op.guard = none) (t : TypeId) (parts : Array (Nat × Operand)) (ho : op.op = .build t parts) (vals : List (Nat × Value)) (cells : Array Value)
    (hv : parts.toList.map (fun q => (q.1, a.eval q.2)) = vals) (hc : P.built t vals = some cells)
    (h : wpList P ops Q rest (a.put op.dst (.agg cells)) w) : wpList P ops Q (op :: rest) a w :=
  have hv' : (parts.map fun (i, x) => (i, a.eval x)).toList = vals := by rw [Array.toList_map]; exact hv
  wpList_build hgd t parts ho (by rw [hv', hc]; rfl) (by rw [hv', hc]; exact h)

/-- 'make([]T, n)'. -/
theorem wl_make (hgd : op.guard = none) (l c : Operand) (t : TypeId) (ho : op.op = Op.makeSlice t l c) (e : TypeId) (z : Value) (size bytes : Nat) (ht : P.underlying t = some (.slice e))
    (hi : (P.info? e).map (fun i => (i.zero, i.size, i.bytes)) = some (some z, size, bytes)) (kl kc : IntKind) (n : Nat) (hl : a.eval l = .int kl n) (hc : a.eval c = .int kc n) (hby : bytes * n ≤ 281474976710656) (hn : n ≤ maxLen)
    (N : Nat) (hN : w.heap.size = N)
    (h : ∀ w1, Upd w w1 N (.cells (madeCells z.cells (n * size)) e (0, 0)) → wpList P ops Q rest (a.put op.dst (.slice (some ⟨N, 0, none⟩) n n)) w1) : wpList P ops Q (op :: rest) a w := by
  refine wpList_plain hgd fun K hK => ?_
  subst hN
  obtain ⟨i, hi', hz, hs, hb⟩ := info_parts hi
  subst hs; subst hb
  have hn' : (n : Int) ≤ 9223372036854775807 := by simp only [maxLen] at hn; omega
  have hby' : (i.bytes : Int) * (n : Int) ≤ 281474976710656 := by
    have : ((i.bytes * n : Nat) : Int) ≤ 281474976710656 := by omega
    rwa [Int.natCast_mul] at this
  have hr := run_make (P := P) w t e i z ht hi' hz kl kc n n (by omega) (by omega) hby' hn'
  simp only [Int.toNat_natCast] at hr
  unfold Oper.wp
  simp [execOp, ho, hl, hc, hr, Result.andThen]
  exact hK _ _ (h _ (upd_alloc w _))

/-- '[]T{x}', as append lays its one operand. -/
theorem wl_slice1 (hgd : op.guard = none) (t : TypeId) (x : Operand) (ho : op.op = .buildSlice t 1 #[(0, x)]) (v : Value) (hx : a.eval x = v) (e : TypeId)
    (hr : ∀ w : World, (Instr.buildSlice t 1 #[(0, v)]).run P w = .ok (.slice (some ⟨w.heap.size, 0, none⟩) 1 1) (w.alloc (.cells v.cells e))) (N : Nat) (hN : w.heap.size = N)
    (h : ∀ w1, Upd w w1 N (.cells v.cells e (0, 0)) → wpList P ops Q rest (a.put op.dst (.slice (some ⟨N, 0, none⟩) 1 1)) w1) : wpList P ops Q (op :: rest) a w := by
  refine wpList_plain hgd fun K hK => ?_
  subst hN
  unfold Oper.wp
  simp only [execOp, ho, List.map_toArray, List.map_cons, List.map_nil, hx, Sem.run_bind, hr, Result.andThen_ok, Sem.run_pure]
  exact hK _ _ (h _ (upd_alloc w _))

/-- 'append' that has no room: a new block. -/
theorem wl_append_grow (hgd : op.guard = none) (s x : Operand) (t : TypeId) (ho : op.op = .call { callee := .builtin .append, args := #[s, x], argTypes := #[t, t] }) (e : TypeId) (z : Value) (size bytes : Nat)
    (ht : P.underlying t = some (.slice e)) (hi : (P.info? e).map (fun i => (i.zero, i.size, i.bytes)) = some (some z, size, bytes)) (hzs : z.cells.size = size)
    (b n cap : Nat) (olds : List Value) (hs : a.eval s = .slice (some ⟨b, 0, none⟩) n cap) (hlo : olds.length = n * size) (holds : w.rangeAt b 0 olds)
    (b2 m c : Nat) (news : List Value) (hx : a.eval x = .slice (some ⟨b2, 0, none⟩) m c) (hl : news.length = m * size) (hnews : w.rangeAt b2 0 news)
    (hg : cap < n + m) (h63 : n + m ≤ maxLen) (hby : (n + m) * bytes ≤ 140737488355328) (N : Nat) (hN : w.heap.size = N)
    (h : ∀ w1 cap1 (D : Array Value), Upd w w1 N (.cells D e (0, 0)) → n + m ≤ cap1 → cap1 ≤ maxLen → D.size = cap1 * size → D.toList.take ((n + m) * size) = olds ++ news →
      wpList P ops Q rest (a.put op.dst (.slice (some ⟨N, 0, none⟩) (n + m) cap1)) w1) : wpList P ops Q (op :: rest) a w := by
  refine wpList_plain hgd fun K hK => ?_
  subst hN
  obtain ⟨i, hi', hz, hsz, hb⟩ := info_parts hi
  subst hsz; subst hb
  have h63' : ((n + m : Nat) : Int) ≤ 9223372036854775807 := by simp only [maxLen] at h63; omega
  have hr := run_append_grow (P := P) w t op.type e i z ht hi' hz ⟨b, 0, none⟩ n cap olds hlo (fun j v hv => by rw [Addr.add_mid]; exact holds j v hv) ⟨b2, 0, none⟩ m c news hl (fun j v hv => by rw [Addr.add_mid]; exact hnews j v hv) hg h63' (growslice_fits hg hby)
  have hge := grownCap_ge w (n + m) cap e
  have hcm : grownCap w (n + m) cap e ≤ maxLen := grownCap_le_maxLen w (n + m) cap e h63
  have hlen : (olds ++ news).length = (n + m) * i.size := by rw [List.length_append, hlo, hl, Nat.add_mul]
  generalize hD : olds.toArray ++ news.toArray ++ Builtin.zeroCells z.cells (grownCap w (n + m) cap e - (n + m)) = D at hr
  unfold Oper.wp
  simp [execOp, ho, resolve, invoke, builtin, hs, hx, hr, Result.andThen]
  refine hK _ _ (h _ _ D ?_ hge hcm ?_ ?_)
  · exact ⟨rfl, rfl, rfl, by simp, heap_alloc_new w.drew _, fun k hk => by
      show (w.heap.push _)[k]? = _
      rw [Array.getElem?_push, if_neg (by omega)]⟩
  · rw [← hD]
    simp only [Array.size_append, List.size_toArray, size_zeroCells, hzs, hlo, hl, ← Nat.add_mul]
    congr 1
    omega
  · rw [← hD]
    simp only [Array.toList_append, List.append_assoc]
    rw [← List.append_assoc, ← hlen]
    exact List.take_left

/-- IN A REGION THAT DRAWS AND ONLY READS: one operation by its run equation. -/
theorem wq_run {R : Act → Prop} (o : Op) (_ : op.op = o) (hw : Region.wanted op (yielded ops a.tmps) = true) (v : Value) (hrun : ∀ n, (execOp a.eval op).run P (w.drewN n) = .ok (.value v) (w.drewN n))
    (h : wpQuiet P ops (fun w' => ∃ n, w' = w.drewN n) R rest (a.put op.dst v)) : wpQuiet P ops (fun w' => ∃ n, w' = w.drewN n) R (op :: rest) a :=
  wpQuiet_step fun K hK => by
    rw [if_pos hw]
    refine ⟨v, ?_, hK _ h⟩
    rintro w1 ⟨n, rfl⟩
    unfold Oper.quietAt
    rw [hrun n]
    exact ⟨rfl, rfl⟩
/-- .. a load. -/
theorem wq_load {R : Act → Prop} (t : TypeId) (x : Operand) (ho : op.op = .load t x) (hw : Region.wanted op (yielded ops a.tmps) = true) (p v : Value) (hx : a.eval x = p) (hrun : ∀ n, (Instr.loadAt t p).run P (w.drewN n) = .ok v (w.drewN n))
    (h : wpQuiet P ops (fun w' => ∃ n, w' = w.drewN n) R rest (a.put op.dst v)) : wpQuiet P ops (fun w' => ∃ n, w' = w.drewN n) R (op :: rest) a :=
  wq_run _ ho hw v (fun n => by simp only [execOp, ho, hx, Sem.run_bind, hrun n, Result.andThen_ok, Sem.run_pure]) h
end
end Go.Proofs.Ybulkdufc
