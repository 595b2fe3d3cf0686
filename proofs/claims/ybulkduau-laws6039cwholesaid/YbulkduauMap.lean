/-
  A MAP KEYED BY [20]byte, ITS ELEMENTS BOOLS: the block known whole, as a list of (key, element, born).
-/
import Derived.Test.YbulkduauB
import Derived.Test.YbulkduauSplit
namespace Go.Proofs.Ybulkduau
open Go.RowKit
open Extern.Stop (cell)

def ent (q : List UInt8 × Bool × Nat) : MapEntry := { key := .agg (kc q.1), val := .bool q.2.1, born := q.2.2 }
/-- The map's block. -/
def mobj (es : List (List UInt8 × Bool × Nat)) (c : Nat) : Obj := .map (es.map ent).toArray c
/-- Where the key stands, and what it holds. -/
def fnd (k : List UInt8) : List (List UInt8 × Bool × Nat) → Nat → Option (Nat × Bool)
  | [], _ => .none
  | e :: es, i => if k == e.1 then some (i, e.2.1) else fnd k es (i + 1)
/-- m[k] = v. -/
def mset (k : List UInt8) (v : Bool) (c : Nat) : List (List UInt8 × Bool × Nat) → List (List UInt8 × Bool × Nat)
  | [] => [(k, v, c)]
  | e :: es => if k == e.1 then (k, v, e.2.2) :: es else e :: mset k v c es
def mclock (k : List UInt8) (c : Nat) (es : List (List UInt8 × Bool × Nat)) : Nat := if (fnd k es 0).isSome then c else c + 1
/-- Every key has its twenty bytes. -/
def keysOk (es : List (List UInt8 × Bool × Nat)) : Prop := ∀ q ∈ es, q.1.length = 20

theorem fnd_mset (k : List UInt8) (v : Bool) (c : Nat) : ∀ (es : List (List UInt8 × Bool × Nat)) (i : Nat), ∃ j, fnd k (mset k v c es) i = some (j, v)
  | [], i => ⟨i, by simp [mset, fnd]⟩
  | e :: es, i => by
    unfold mset
    by_cases h : (k == e.1) = true
    · rw [if_pos h]; exact ⟨i, by simp [fnd]⟩
    · rw [if_neg h]
      obtain ⟨j, hj⟩ := fnd_mset k v c es (i + 1)
      exact ⟨j, by simp only [fnd]; rw [if_neg h]; exact hj⟩
theorem fnd_mset_keep (k k1 : List UInt8) (v : Bool) (c : Nat) : ∀ (es : List (List UInt8 × Bool × Nat)) (i : Nat), (fnd k1 es i).isSome = true → (fnd k1 (mset k v c es) i).isSome = true
  | [], i, h => by simp [fnd] at h
  | e :: es, i, h => by
    unfold mset
    by_cases hk : (k == e.1) = true
    · rw [if_pos hk]
      obtain rfl : k = e.1 := by simpa using hk
      simp only [fnd] at h ⊢
      by_cases h1 : (k1 == e.1) = true
      · simp [h1]
      · rw [if_neg h1] at h ⊢; exact h
    · rw [if_neg hk]
      simp only [fnd] at h ⊢
      by_cases h1 : (k1 == e.1) = true
      · simp [h1]
      · rw [if_neg h1] at h ⊢; exact fnd_mset_keep k k1 v c es (i + 1) h
theorem keysOk_mset {k : List UInt8} {v : Bool} {c : Nat} (hk : k.length = 20) : ∀ {es : List (List UInt8 × Bool × Nat)}, keysOk es → keysOk (mset k v c es)
  | [], _ => by intro q hq; simp [mset] at hq; subst hq; exact hk
  | e :: es, h => by
    unfold mset
    intro q hq
    split at hq
    · rcases List.mem_cons.1 hq with rfl | hq
      · exact hk
      · exact h q (List.mem_cons_of_mem _ hq)
    · rcases List.mem_cons.1 hq with rfl | hq
      · exact h _ (List.mem_cons_self ..)
      · exact keysOk_mset hk (fun q hq => h q (List.mem_cons_of_mem _ hq)) q hq
theorem mset_modify (k : List UInt8) (v : Bool) (c : Nat) : ∀ (es : List (List UInt8 × Bool × Nat)) (i j : Nat) (b : Bool), fnd k es i = some (j, b) → ∃ m, j = i + m ∧ es.modify m (fun q => (k, v, q.2.2)) = mset k v c es ∧ (es[m]?).map (·.1) = some k
  | [], i, j, b, h => by simp [fnd] at h
  | e :: es, i, j, b, h => by
    simp only [fnd] at h
    unfold mset
    by_cases hk : (k == e.1) = true
    · rw [if_pos hk] at h ⊢
      obtain rfl : k = e.1 := by simpa using hk
      simp at h
      exact ⟨0, by omega, by simp, by simp⟩
    · rw [if_neg hk] at h ⊢
      obtain ⟨m, h1, h2, h3⟩ := mset_modify k v c es (i + 1) j b h
      exact ⟨m + 1, by omega, by simp [h2], by simpa using h3⟩
theorem mset_push (k : List UInt8) (v : Bool) (c : Nat) : ∀ (es : List (List UInt8 × Bool × Nat)) (i : Nat), fnd k es i = .none → es ++ [(k, v, c)] = mset k v c es
  | [], i, _ => rfl
  | e :: es, i, h => by
    simp only [fnd] at h
    unfold mset
    by_cases hk : (k == e.1) = true
    · rw [if_pos hk] at h; cases h
    · rw [if_neg hk] at h ⊢
      rw [List.cons_append, mset_push k v c es (i + 1) h]

theorem eq_keys (xs ys : List UInt8) (hx : xs.length = 20) (hy : ys.length = 20) (w : World) : (Op.equal 30 (.agg (kc xs)) (.agg (kc ys))).run Yba.prog w = .ok (xs == ys) w := by
  have := run_equalIn_bytes (P := Yba.prog) w 9998 30 5 20 Yba.underlying30 Yba.underlying5 (fun w => by kernel_rfl) xs ys hx hy
  unfold kc
  exact this

theorem run_ask (k : List UInt8) (hk : k.length = 20) (w : World) : ∀ (es : List (List UInt8 × Bool × Nat)) (i : Nat), keysOk es →
    (Instr.findAsking 30 (.agg (kc k)) (es.map ent) i).run Yba.prog w = .ok ((fnd k es i).map fun p => (p.1, .bool p.2)) w
  | [], i, _ => by simp [Instr.findAsking, fnd]
  | e :: es, i, h => by
    have he : e.1.length = 20 := h e (List.mem_cons_self ..)
    have ih := run_ask k hk w es (i + 1) (fun q hq => h q (List.mem_cons_of_mem _ hq))
    simp only [List.map_cons, Instr.findAsking, Sem.run_bind, fnd]
    have : (ent e).key = .agg (kc e.1) := rfl
    rw [this, eq_keys k e.1 hk he w, Result.andThen_ok]
    by_cases hb : (k == e.1) = true
    · simp [hb, ent]
    · simp only [hb]
      simpa using ih

theorem run_find (k : List UInt8) (hk : k.length = 20) (w : World) (es : List (List UInt8 × Bool × Nat)) (h : keysOk es) :
    (Instr.findKey 30 (.agg (kc k)) (es.map ent)).run Yba.prog w = .ok ((fnd k es 0).map fun p => (p.1, .bool p.2)) w := by
  have h1 := run_ask k hk w es 0 h
  simp only [Instr.findKey, Sem.run_bind, run_underlying Yba.underlying30, Result.andThen_ok]
  cases es with
  | nil => simp [Instr.findNow, fnd]
  | cons e es =>
    have : Instr.findNow (.array 20 5) (.agg (kc k)) ((e :: es).map ent) 0 = .none := by
      simp [Instr.findNow, Instr.sameNow]
    rw [this]
    exact h1

theorem run_check (b : Bool) (k : List UInt8) (hk : k.length = 20) (w : World) : (Instr.checkKey b 10000 30 (.agg (kc k))).run Yba.prog w = .ok () w := by
  obtain ⟨a0, a1, a2, a3, a4, a5, a6, a7, a8, a9, a10, a11, a12, a13, a14, a15, a16, a17, a18, a19, rfl⟩ := list20 k hk
  kernel_rfl

theorem sameBits_key (k : List UInt8) : Instr.sameBits 10000 (.agg (kc k)) (.agg (kc k)) = true := by
  have h : ∀ (n : Nat) (l : List Value), (∀ v ∈ l, Instr.sameBits n v v = true) → ((l.zip l).all fun (x, y) => Instr.sameBits n x y) = true := by
    intro n l hl
    induction l with
    | nil => rfl
    | cons v l ih => simp [hl v (by simp), ih (fun u hu => hl u (by simp [hu]))]
  unfold Instr.sameBits
  simp only [beq_self_eq_true, Bool.true_and]
  apply h
  intro v hv
  simp [kc] at hv
  obtain ⟨x, _, rfl⟩ := hv
  simp [cell, Instr.sameBits]

theorem upd_setObj (w : World) (r : Nat) (o o1 : Obj) (h : w.heap[r]? = some o1) : Upd w { w with heap := w.heap.setIfInBounds r o } r o := by
  have hlt := lt_of_heap h
  refine ⟨rfl, rfl, rfl, by simp; omega, ?_, fun k hk => ?_⟩
  · simp [hlt]
  · simp [Array.getElem?_setIfInBounds_ne (fun e => hk e.symm)]

theorem run_mapUpdate (k : List UInt8) (hk : k.length = 20) (v : Bool) (w : World) (r c : Nat) (es : List (List UInt8 × Bool × Nat)) (hes : keysOk es) (hr : w.heap[r]? = some (mobj es c)) :
    (Instr.mapUpdate 57 (.map (some r)) (.agg (kc k)) (.bool v)).run Yba.prog w = .ok () { w with heap := w.heap.setIfInBounds r (mobj (mset k v c es) (mclock k c es)) } := by
  have hr' : w.heap[r]? = some (.map (es.map ent).toArray c) := hr
  have hf := run_find k hk w es hes
  simp only [Instr.mapUpdate, Sem.run_bind, run_underlying Yba.underlying57, Result.andThen_ok, MapKept.run_getObj_map hr', run_check false k hk w]
  rw [hf, Result.andThen_ok]
  cases hfn : fnd k es 0 with
  | none =>
    have := mset_push k v c es 0 hfn
    simp only [Option.map_none]
    have e : Obj.map ((es.map ent).toArray.push { key := .agg (kc k), val := .bool v, born := c }) (c + 1) = mobj (mset k v c es) (mclock k c es) := by
      simp [mobj, mclock, hfn, ← this, ent]
    rw [MapKept.run_setObj_map _ hr', e]
  | some p =>
    obtain ⟨j, b⟩ := p
    obtain ⟨m, h1, h2, h3⟩ := mset_modify k v c es 0 j b hfn
    obtain rfl : j = m := by omega
    simp only [Option.map_some, Sem.run_bind]
    have hold : (((es.map ent).toArray[j]?).map (·.key)).getD (.agg (kc k)) = .agg (kc k) := by
      cases hx : es[j]? with
      | none => simp [hx]
      | some q =>
        rw [hx] at h3
        simp at h3
        simp [hx, ent, h3]
    rw [hold]
    have hst : (Instr.keyThatStays (.agg (kc k)) (.agg (kc k))).run Yba.prog w = .ok (.agg (kc k)) w := by
      unfold Instr.keyThatStays
      rw [if_pos (sameBits_key k)]
      rfl
    have e : Obj.map ((es.map ent).toArray.modify j fun e => { e with key := .agg (kc k), val := .bool v }) c = mobj (mset k v c es) (mclock k c es) := by
      have e1 : (es.map ent).toArray.modify j (fun e => { e with key := .agg (kc k), val := .bool v }) = ((es.modify j (fun q => (k, v, q.2.2))).map ent).toArray := by
        apply Array.ext'
        simp only [Array.toList_modify]
        apply List.ext_getElem?
        intro i
        simp only [List.getElem?_modify, List.getElem?_map]
        cases es[i]? with
        | none => simp
        | some q => by_cases hji : j = i <;> simp [hji, ent]
      rw [e1, h2]
      simp [mobj, mclock, hfn]
    rw [hst, Result.andThen_ok, MapKept.run_setObj_map _ hr', e]

theorem run_lookup (k : List UInt8) (hk : k.length = 20) (ok : Bool) (w : World) (r c : Nat) (es : List (List UInt8 × Bool × Nat)) (hes : keysOk es) (hr : w.heap[r]? = some (mobj es c)) :
    (Instr.lookup 57 (.map (some r)) (.agg (kc k)) ok).run Yba.prog w = .ok (if ok then .tuple #[.bool (((fnd k es 0).map (·.2)).getD false), .bool (fnd k es 0).isSome] else .bool (((fnd k es 0).map (·.2)).getD false)) w := by
  have hr' : w.heap[r]? = some (.map (es.map ent).toArray c) := hr
  have hf := run_find k hk w es hes
  have hz : (zeroValue 4).run Yba.prog w = .ok (.bool false) w := by kernel_rfl
  simp only [Instr.lookup, Sem.run_bind, run_underlying Yba.underlying57, Result.andThen_ok, MapKept.run_getObj_map hr', Sem.run_pure, run_check _ k hk w]
  rw [hf, Result.andThen_ok]
  cases hfn : fnd k es 0 with
  | none => simp [hz]
  | some p => simp

theorem run_lenmap (ty : TypeId) (w : World) (r c : Nat) (es : List (List UInt8 × Bool × Nat)) (hr : w.heap[r]? = some (mobj es c)) :
    (Builtin.len_ #[57] ty #[.map (some r)]).run Yba.prog w = .ok (.int .i64 es.length) w := by
  have hr' : w.heap[r]? = some (.map (es.map ent).toArray c) := hr
  simp [Builtin.len_, run_underlying Yba.underlying57, MapKept.run_getObj_map hr', goInt]

section
variable {ops : Array Oper} {rest : List Oper} {op : Oper} {a : Act} {w : World} {Q : Exit → Act → World → Prop}
theorem wl_mapUpdate (hgd : op.guard = none) (m k x : Operand) (ho : op.op = .mapUpdate 57 m k x) (r : Nat) (key : List UInt8) (hkey : key.length = 20) (v : Bool) (hm : a.eval m = .map (some r)) (hk : a.eval k = .agg (kc key)) (hx : a.eval x = .bool v)
    (c : Nat) (es : List (List UInt8 × Bool × Nat)) (hes : keysOk es) (hr : w.heap[r]? = some (mobj es c))
    (h : ∀ w1, Upd w w1 r (mobj (mset key v c es) (mclock key c es)) → wpList Yba.prog ops Q rest (a.put op.dst undef) w1) : wpList Yba.prog ops Q (op :: rest) a w := by
  refine wpList_plain hgd fun K hK => ?_
  unfold Oper.wp
  simp only [execOp, ho, hm, hk, hx, Sem.run_bind, run_mapUpdate key hkey v w r c es hes hr, Result.andThen_ok, Sem.run_pure]
  exact hK _ _ (h _ (upd_setObj w r _ _ hr))
theorem wl_lookup (hgd : op.guard = none) (m k : Operand) (ok : Bool) (ho : op.op = .lookup 57 m k ok) (r : Nat) (key : List UInt8) (hkey : key.length = 20) (hm : a.eval m = .map (some r)) (hk : a.eval k = .agg (kc key))
    (c : Nat) (es : List (List UInt8 × Bool × Nat)) (hes : keysOk es) (hr : w.heap[r]? = some (mobj es c)) (v : Value) (hv : (if ok then Value.tuple #[.bool (((fnd key es 0).map (·.2)).getD false), .bool (fnd key es 0).isSome] else .bool (((fnd key es 0).map (·.2)).getD false)) = v)
    (h : wpList Yba.prog ops Q rest (a.put op.dst v) w) : wpList Yba.prog ops Q (op :: rest) a w := by
  refine wpList_plain hgd fun K hK => ?_
  unfold Oper.wp
  simp only [execOp, ho, hm, hk, Sem.run_bind, run_lookup key hkey ok w r c es hes hr, Result.andThen_ok, Sem.run_pure, hv]
  exact hK _ _ h
theorem wl_lenmap (hgd : op.guard = none) (m : Operand) (ho : op.op = .call { callee := .builtin .len, args := #[m], argTypes := #[57] }) (r : Nat) (hm : a.eval m = .map (some r))
    (c : Nat) (es : List (List UInt8 × Bool × Nat)) (hr : w.heap[r]? = some (mobj es c))
    (h : wpList Yba.prog ops Q rest (a.put op.dst (.int .i64 es.length)) w) : wpList Yba.prog ops Q (op :: rest) a w := by
  refine wpList_plain hgd fun K hK => ?_
  have hl := run_lenmap op.type w r c es hr
  unfold Oper.wp
  simp only [execOp, ho, resolve, invoke, builtin, Sem.run_bind, Sem.run_pure, Result.andThen_ok, List.map_toArray, List.map_cons, List.map_nil, hm, hl]
  exact hK _ _ h
/-- 'make(map[..]..)'. -/
theorem wl_makeMap (hgd : op.guard = none) (t : TypeId) (ho : op.op = .makeMap t .none) (N : Nat) (hN : w.heap.size = N)
    (h : ∀ w1, Upd w w1 N (mobj [] 0) → wpList Yba.prog ops Q rest (a.put op.dst (.map (some N))) w1) : wpList Yba.prog ops Q (op :: rest) a w := by
  refine wpList_plain hgd fun K hK => ?_
  subst hN
  unfold Oper.wp
  simp [execOp, ho, Instr.makeMap, newObj, Result.andThen]
  exact hK _ _ (h _ (upd_alloc w _))
end
end Go.Proofs.Ybulkduau
