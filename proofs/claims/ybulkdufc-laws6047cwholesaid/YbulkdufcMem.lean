/-
  MEMORY AS ONE LIST of the blocks that the call has made; maps by their entries.
-/
import Derived.Test.YbulkdufcLib
import Derived.Test.YbulkdufcSplit
namespace Go.Proofs.Ybulkdufc
open Go.RowKit Go.Split

/-- From B on memory is the list L; below B it is as in w0. -/
structure Mem (w0 w : World) (B : Nat) (L : List Obj) : Prop where
  size : w.heap.size = B + L.length
  blk : ∀ i, i < L.length → w.heap[B + i]? = L[i]?
  below : Below B w0 w
section
variable {w0 w w1 : World} {B i : Nat} {L : List Obj} {o : Obj}
theorem Mem.get (h : Mem w0 w B L) (hi : L[i]? = some o) : w.heap[B + i]? = some o := by
  rw [h.blk i (List.getElem?_eq_some_iff.1 hi).1, hi]
theorem Mem.push (h : Mem w0 w B L) (u : Upd w w1 (B + L.length) o) : Mem w0 w1 B (L ++ [o]) := by
  have hs := h.size; have hu := u.size
  refine ⟨by simp; omega, fun i hi => ?_, h.below.trans (u.below (by omega))⟩
  simp at hi
  by_cases he : i = L.length
  · subst he
    rw [u.here]; simp
  · rw [u.other _ (by omega), h.blk i (by omega), List.getElem?_append_left (by omega)]
theorem Mem.set (h : Mem w0 w B L) (hi : i < L.length) (u : Upd w w1 (B + i) o) : Mem w0 w1 B (L.set i o) := by
  have hs := h.size; have hu := u.size
  refine ⟨by simp; omega, fun j hj => ?_, h.below.trans (u.below (by omega))⟩
  simp at hj
  by_cases he : i = j
  · subst he
    rw [u.here]; simp [hi]
  · rw [u.other _ (by omega), h.blk j hj, List.getElem?_set_ne he]
theorem Mem.drewN (h : Mem w0 w B L) (n : Nat) : Mem w0 (w.drewN n) B L := ⟨h.size, h.blk, h.below.os, h.below.tape, h.below.output, h.below.size, h.below.block⟩
theorem Mem.drew (h : Mem w0 w B L) : Mem w0 w.drew B L := ⟨h.size, h.blk, h.below.os, h.below.tape, h.below.output, h.below.size, h.below.block⟩
theorem Mem.start (w : World) : Mem w w w.heap.size [] := ⟨by simp, fun i hi => by simp at hi, Below.refl _ _⟩
end

theorem upd_setObj (w : World) (r : Nat) (o o1 : Obj) (h : w.heap[r]? = some o1) : Upd w { w with heap := w.heap.setIfInBounds r o } r o := by
  have hlt := lt_of_heap h
  refine ⟨rfl, rfl, rfl, by simp; omega, ?_, fun k hk => ?_⟩
  · simp [hlt]
  · simp [Array.getElem?_setIfInBounds_ne (fun e => hk e.symm)]

section
variable {P : Program} {w : World} {mt kt el : TypeId} {r c : Nat} {es : Array MapEntry} {key v : Value}
theorem run_upd_new (hu : P.underlying mt = some (.map kt el)) (hr : w.heap[r]? = some (.map es c)) (hck : (Instr.checkKey false 10000 kt key).run P w = .ok () w) (hf : (Instr.findKey kt key es.toList).run P w = .ok none w) :
    (Instr.mapUpdate mt (.map (some r)) key v).run P w = .ok () { w with heap := w.heap.setIfInBounds r (.map (es.push { key := key, val := v, born := c }) (c + 1)) } := by
  simp only [Instr.mapUpdate, Sem.run_bind, run_underlying hu, Result.andThen_ok, MapKept.run_getObj_map hr, hck, hf]
  rw [MapKept.run_setObj_map _ hr]
theorem run_look (hu : P.underlying mt = some (.map kt el)) (hr : w.heap[r]? = some (.map es c)) (hck : (Instr.checkKey es.isEmpty 10000 kt key).run P w = .ok () w) {i : Nat} (hf : (Instr.findKey kt key es.toList).run P w = .ok (some (i, v)) w) (ok : Bool) :
    (Instr.lookup mt (.map (some r)) key ok).run P w = .ok (if ok then .tuple #[v, .bool true] else v) w := by
  simp only [Instr.lookup, Sem.run_bind, run_underlying hu, Result.andThen_ok, MapKept.run_getObj_map hr, Sem.run_pure, hck, hf]
theorem run_look_none (hu : P.underlying mt = some (.map kt el)) (hr : w.heap[r]? = some (.map es c)) (hck : (Instr.checkKey es.isEmpty 10000 kt key).run P w = .ok () w) (hf : (Instr.findKey kt key es.toList).run P w = .ok none w) (hz : (zeroValue el).run P w = .ok v w) (ok : Bool) :
    (Instr.lookup mt (.map (some r)) key ok).run P w = .ok (if ok then .tuple #[v, .bool false] else v) w := by
  simp only [Instr.lookup, Sem.run_bind, run_underlying hu, Result.andThen_ok, MapKept.run_getObj_map hr, Sem.run_pure, hck, hf, hz]
def struck (es : Array MapEntry) : Option (Nat × Value) → Array MapEntry
  | some (i, _) => es.eraseIdxIfInBounds i
  | .none => es
theorem run_del (ty : TypeId) (hu : P.underlying mt = some (.map kt el)) (hr : w.heap[r]? = some (.map es c)) (hck : (Instr.checkKey es.isEmpty 10000 kt key).run P w = .ok () w) (res : Option (Nat × Value)) (hf : (Instr.findKey kt key es.toList).run P w = .ok res w) (kt2 : TypeId) :
    (Builtin.delete_ #[mt, kt2] ty #[.map (some r), key]).run P w = .ok (.tuple #[]) { w with heap := w.heap.setIfInBounds r (.map (struck es res) c) } := by
  simp only [Builtin.delete_, List.getElem?_toArray, List.getElem?_cons_zero, List.getElem?_cons_succ, Sem.run_bind, run_underlying hu, Result.andThen_ok, MapKept.run_getObj_map hr, hck, hf]
  cases res with
  | none => simp only [Sem.run_bind]; rw [MapKept.run_setObj_map _ hr]; rfl
  | some p => simp only [Sem.run_bind]; rw [MapKept.run_setObj_map _ hr]; rfl
theorem run_lenmap (ty : TypeId) (hu : P.underlying mt = some (.map kt el)) (hr : w.heap[r]? = some (.map es c)) : (Builtin.len_ #[mt] ty #[.map (some r)]).run P w = .ok (.int .i64 es.size) w := by
  simp [Builtin.len_, run_underlying hu, MapKept.run_getObj_map hr, goInt]
end

/-! ### The laws of a walk over 'Mem'. -/
section
variable {P : Program} {ops : Array Oper} {rest : List Oper} {op : Oper} {a : Act} {w w0 : World} {Q : Exit → Act → World → Prop} {B : Nat} {L : List Obj}
theorem m_alloc (hgd : op.guard = none) (t : TypeId) (ho : op.op = .alloc t) (z : Value) (hz : (P.info? t).map (·.zero) = some (some z)) (hM : Mem w0 w B L) (n : Nat) (hn : L.length = n)
    (h : ∀ w1, Mem w0 w1 B (L ++ [.cells z.cells t (0, 0)]) → wpList P ops Q rest (a.put op.dst (.pointer (some ⟨B + n, 0, none⟩))) w1) : wpList P ops Q (op :: rest) a w := by
  subst hn
  exact wl_alloc hgd t ho z hz _ hM.size (fun w1 u => h w1 (hM.push u))
theorem m_box (hgd : op.guard = none) (t : TypeId) (x : Operand) (ho : op.op = .box t x) (v : Value) (hv : a.eval x = v) (hM : Mem w0 w B L) (n : Nat) (hn : L.length = n)
    (h : ∀ w1, Mem w0 w1 B (L ++ [.cells v.cells t (0, 0)]) → wpList P ops Q rest (a.put op.dst (.pointer (some ⟨B + n, 0, none⟩))) w1) : wpList P ops Q (op :: rest) a w := by
  subst hn
  exact wl_box hgd t x ho v hv _ hM.size (fun w1 u => h w1 (hM.push u))
theorem m_makeMap (hgd : op.guard = none) (t : TypeId) (ho : op.op = .makeMap t .none) (hM : Mem w0 w B L) (n : Nat) (hn : L.length = n)
    (h : ∀ w1, Mem w0 w1 B (L ++ [.map #[] 0]) → wpList P ops Q rest (a.put op.dst (.map (some (B + n)))) w1) : wpList P ops Q (op :: rest) a w := by
  subst hn
  refine wpList_plain hgd fun K hK => ?_
  unfold Oper.wp
  simp [execOp, ho, Instr.makeMap, newObj, Result.andThen]
  have h' : ∀ w1, Upd w w1 w.heap.size (.map #[] 0) → wpList P ops Q rest (a.put op.dst (.map (some w.heap.size))) w1 := by
    rw [hM.size]
    exact fun w1 u => h w1 (hM.push u)
  exact hK _ _ (h' _ (upd_alloc w _))
theorem m_store1 (hgd : op.guard = none) (ty : TypeId) (x y : Operand) (ho : op.op = .store ty x y) (j i : Nat) (v : Value) (C : Array Value) (t : TypeId) (hx : a.eval x = .pointer (some ⟨B + j, i, none⟩)) (hy : a.eval y = v)
    (hM : Mem w0 w B L) (hb : L[j]? = some (.cells C t (0, 0))) (hlt : i < C.size) (hi : (P.info? ty).map (·.size) = some 1) (h1 : v.oneCell' = true)
    (h : ∀ w1, Mem w0 w1 B (L.set j (.cells (C.setIfInBounds i v) t (0, 0))) → wpList P ops Q rest (a.put op.dst undef) w1) : wpList P ops Q (op :: rest) a w :=
  wl_store1 hgd ty x y ho (B + j) i v C t hx hy (hM.get hb) hlt hi h1 (fun w1 u => h w1 (hM.set (List.getElem?_eq_some_iff.1 hb).1 u))
theorem m_load1 (hw : Region.wanted op (yielded ops a.tmps) = true) (ty : TypeId) (x : Operand) (ho : op.op = .load ty x) (j i : Nat) (C : Array Value) (t : TypeId) (fr : Nat × Nat) (v : Value) (hx : a.eval x = .pointer (some ⟨B + j, i, none⟩))
    (hM : Mem w0 w B L) (hb : L[j]? = some (.cells C t fr)) (hv : C[i]? = some v) (d : TypeDesc) (hu : P.underlying ty = some d) (hd : d.isRow = false)
    (h : wpList P ops Q rest (a.put op.dst v) w) : wpList P ops Q (op :: rest) a w :=
  unguard hw (wl_load1 rfl ty x ho (B + j) i C t fr v hx (hM.get hb) hv d hu hd h)
theorem m_update (hgd : op.guard = none) (mt kt el : TypeId) (m k x : Operand) (ho : op.op = .mapUpdate mt m k x ∨ op.op = .insert mt m k x) (j c : Nat) (es : Array MapEntry) (key v : Value) (hm : a.eval m = .map (some (B + j))) (hk : a.eval k = key) (hx : a.eval x = v)
    (hM : Mem w0 w B L) (hb : L[j]? = some (.map es c)) (hu : P.underlying mt = some (.map kt el)) (hck : ∀ w : World, (Instr.checkKey false 10000 kt key).run P w = .ok () w) (hf : ∀ w : World, (Instr.findKey kt key es.toList).run P w = .ok none w)
    (h : ∀ w1, Mem w0 w1 B (L.set j (.map (es.push { key := key, val := v, born := c }) (c + 1))) → wpList P ops Q rest (a.put op.dst undef) w1) : wpList P ops Q (op :: rest) a w := by
  refine wpList_plain hgd fun K hK => ?_
  have hr := run_upd_new (P := P) (v := v) hu (hM.get hb) (hck w) (hf w)
  have := hM.set (List.getElem?_eq_some_iff.1 hb).1 (upd_setObj w (B + j) (.map (es.push { key := key, val := v, born := c }) (c + 1)) _ (hM.get hb))
  unfold Oper.wp
  rcases ho with ho | ho <;>
  · simp only [execOp, ho, hm, hk, hx, Sem.run_bind, hr, Result.andThen_ok, Sem.run_pure]
    exact hK _ _ (h _ this)
theorem m_lookup (hw : Region.wanted op (yielded ops a.tmps) = true) (mt kt el : TypeId) (m k : Operand) (ok : Bool) (ho : op.op = .lookup mt m k ok) (j c : Nat) (es : Array MapEntry) (key v : Value) (hm : a.eval m = .map (some (B + j))) (hk : a.eval k = key)
    (hM : Mem w0 w B L) (hb : L[j]? = some (.map es c)) (hu : P.underlying mt = some (.map kt el)) (hck : ∀ (b : Bool) (w : World), (Instr.checkKey b 10000 kt key).run P w = .ok () w) (i : Nat) (hf : ∀ w : World, (Instr.findKey kt key es.toList).run P w = .ok (some (i, v)) w)
    (h : wpList P ops Q rest (a.put op.dst (if ok then .tuple #[v, .bool true] else v)) w) : wpList P ops Q (op :: rest) a w := by
  refine unguard hw (wpList_plain rfl fun K hK => ?_)
  have hr := run_look (P := P) hu (hM.get hb) (hck _ w) (hf w) ok
  unfold Oper.wp
  simp only [execOp, ho, hm, hk, Sem.run_bind, hr, Result.andThen_ok, Sem.run_pure]
  exact hK _ _ h
theorem m_lookup_none (hw : Region.wanted op (yielded ops a.tmps) = true) (mt kt el : TypeId) (m k : Operand) (ok : Bool) (ho : op.op = .lookup mt m k ok) (j c : Nat) (es : Array MapEntry) (key v : Value) (hm : a.eval m = .map (some (B + j))) (hk : a.eval k = key)
    (hM : Mem w0 w B L) (hb : L[j]? = some (.map es c)) (hu : P.underlying mt = some (.map kt el)) (hck : ∀ (b : Bool) (w : World), (Instr.checkKey b 10000 kt key).run P w = .ok () w) (hf : ∀ w : World, (Instr.findKey kt key es.toList).run P w = .ok none w) (hz : ∀ w : World, (zeroValue el).run P w = .ok v w)
    (h : wpList P ops Q rest (a.put op.dst (if ok then .tuple #[v, .bool false] else v)) w) : wpList P ops Q (op :: rest) a w := by
  refine unguard hw (wpList_plain rfl fun K hK => ?_)
  have hr := run_look_none (P := P) hu (hM.get hb) (hck _ w) (hf w) (hz w) ok
  unfold Oper.wp
  simp only [execOp, ho, hm, hk, Sem.run_bind, hr, Result.andThen_ok, Sem.run_pure]
  exact hK _ _ h
theorem m_delete (hgd : op.guard = none) (mt kt el kt2 : TypeId) (m k : Operand) (ho : op.op = .call { callee := .builtin .delete, args := #[m, k], argTypes := #[mt, kt2] }) (j c : Nat) (es : Array MapEntry) (key : Value) (hm : a.eval m = .map (some (B + j))) (hk : a.eval k = key)
    (hM : Mem w0 w B L) (hb : L[j]? = some (.map es c)) (hu : P.underlying mt = some (.map kt el)) (hck : ∀ (b : Bool) (w : World), (Instr.checkKey b 10000 kt key).run P w = .ok () w) (res : Option (Nat × Value)) (hf : ∀ w : World, (Instr.findKey kt key es.toList).run P w = .ok res w)
    (es1 : Array MapEntry) (he : struck es res = es1)
    (h : ∀ w1, Mem w0 w1 B (L.set j (.map es1 c)) → wpList P ops Q rest (a.put op.dst (.tuple #[])) w1) : wpList P ops Q (op :: rest) a w := by
  refine wpList_plain hgd fun K hK => ?_
  have hr := run_del (P := P) op.type hu (hM.get hb) (hck _ w) res (hf w) kt2
  rw [he] at hr
  have := hM.set (List.getElem?_eq_some_iff.1 hb).1 (upd_setObj w (B + j) (.map es1 c) _ (hM.get hb))
  unfold Oper.wp
  simp only [execOp, ho, resolve, invoke, builtin, Sem.run_bind, Sem.run_pure, Result.andThen_ok, List.map_toArray, List.map_cons, List.map_nil, hm, hk, hr]
  exact hK _ _ (h _ this)
theorem m_len (hw : Region.wanted op (yielded ops a.tmps) = true) (mt kt el : TypeId) (m : Operand) (ho : op.op = .call { callee := .builtin .len, args := #[m], argTypes := #[mt] }) (j c : Nat) (es : Array MapEntry) (hm : a.eval m = .map (some (B + j)))
    (hM : Mem w0 w B L) (hb : L[j]? = some (.map es c)) (hu : P.underlying mt = some (.map kt el)) (n : Int) (hn : (es.size : Int) = n)
    (h : wpList P ops Q rest (a.put op.dst (.int .i64 n)) w) : wpList P ops Q (op :: rest) a w := by
  refine unguard hw (wpList_plain rfl fun K hK => ?_)
  have hl := run_lenmap (P := P) op.type hu (hM.get hb)
  rw [hn] at hl
  unfold Oper.wp
  simp only [execOp, ho, resolve, invoke, builtin, Sem.run_bind, Sem.run_pure, Result.andThen_ok, List.map_toArray, List.map_cons, List.map_nil, hm, hl]
  exact hK _ _ h
end
end Go.Proofs.Ybulkdufc
