/-
  Loops over a map of one entry, of none, over a nil map.
-/
import Derived.Test.YbulkdufcUnlink
namespace Go.Proofs.Ybulkdufc
open Go.RowKit Go.Split

section
variable {P : Program} {w : World} {r m since last c : Nat} {e : MapEntry} {seen : Array Nat}
theorem run_getIter {x : Option Nat} (hr : w.heap[r]? = some (.mapIter x since seen last)) : (getObj r).run P w = .ok (.mapIter x since seen last) w := by simp [getObj, Sem.run, hr]
theorem run_setIter {x : Option Nat} (o : Obj) (hr : w.heap[r]? = some (.mapIter x since seen last)) : (setObj r o).run P w = .ok () { w with heap := w.heap.setIfInBounds r o } := by simp [setObj, Sem.run, hr]
theorem nx_one (ty : TypeId) (hr : w.heap[r]? = some (.mapIter (some m) since #[] last)) (hm : w.heap[m]? = some (.map #[e] c)) (hb : e.born < since) :
    (Instr.next (.pointer (some ⟨r, 0, none⟩)) false ty).run P w = .ok (.tuple #[.bool true, e.key, e.val]) { w with heap := w.heap.setIfInBounds r (.mapIter (some m) since #[e.born] c) } := by
  have hf : (Question.mapNext 1).forced = true := rfl
  have hb' : ¬ since ≤ e.born := by omega
  simp [Instr.next, run_getIter hr, MapKept.run_getObj_map hm, hb, hb', hf, run_setIter _ hr]
theorem nx_none (ty : TypeId) (hr : w.heap[r]? = some (.mapIter (some m) since seen last)) (hm : w.heap[m]? = some (.map #[] c)) :
    (Instr.next (.pointer (some ⟨r, 0, none⟩)) false ty).run P w = .ok (.tuple #[.bool false]) w := by
  have hf : (Question.mapNext 1).forced = true := rfl
  simp [Instr.next, run_getIter hr, MapKept.run_getObj_map hm, hf]
theorem nx_nil (ty : TypeId) (hr : w.heap[r]? = some (.mapIter .none since seen last)) :
    (Instr.next (.pointer (some ⟨r, 0, none⟩)) false ty).run P w = .ok (.tuple #[.bool false]) w := by
  simp [Instr.next, run_getIter hr]
theorem en_one (hr : w.heap[r]? = some (.mapIter (some m) since #[e.born] c)) (hm : w.heap[m]? = some (.map #[e] c)) :
    (Instr.entry (.pointer (some ⟨r, 0, none⟩))).run P w = .ok (.tuple #[e.key, e.val]) w := by
  simp [Instr.entry, run_getIter hr, MapKept.run_getObj_map hm]
end
section
variable {P : Program} {ops : Array Oper} {rest : List Oper} {op : Oper} {a : Act} {w w0 : World} {Q : Exit → Act → World → Prop} {B : Nat} {L : List Obj}
theorem m_range (hgd : op.guard = none) (t kt el : TypeId) (x : Operand) (ho : op.op = .range t x) (j c : Nat) (es : Array MapEntry) (hx : a.eval x = .map (some (B + j))) (hu : P.underlying t = some (.map kt el)) (hM : Mem w0 w B L) (hb : L[j]? = some (.map es c)) (n : Nat) (hn : L.length = n)
    (h : ∀ w1, Mem w0 w1 B (L ++ [.mapIter (some (B + j)) c #[] c]) → wpList P ops Q rest (a.put op.dst (.pointer (some ⟨B + n, 0, none⟩))) w1) : wpList P ops Q (op :: rest) a w := by
  subst hn
  refine wpList_plain hgd fun K hK => ?_
  have hr : (Instr.range t (.map (some (B + j)))).run P w = .ok (.pointer (some ⟨w.heap.size, 0, none⟩)) (w.alloc (.mapIter (some (B + j)) c #[] c)) := by
    simp [Instr.range, run_underlying hu, MapKept.run_getObj_map (hM.get hb)]
  have u := upd_alloc w (.mapIter (some (B + j)) c #[] c)
  rw [hM.size] at u hr
  unfold Oper.wp
  simp only [execOp, ho, hx, Sem.run_bind, hr, Result.andThen_ok, Sem.run_pure]
  exact hK _ _ (h _ (hM.push u))
theorem m_range_nil (hgd : op.guard = none) (t kt el : TypeId) (x : Operand) (ho : op.op = .range t x) (hx : a.eval x = .map none) (hu : P.underlying t = some (.map kt el)) (hM : Mem w0 w B L) (n : Nat) (hn : L.length = n)
    (h : ∀ w1, Mem w0 w1 B (L ++ [.mapIter none 0 #[] 0]) → wpList P ops Q rest (a.put op.dst (.pointer (some ⟨B + n, 0, none⟩))) w1) : wpList P ops Q (op :: rest) a w := by
  subst hn
  refine wpList_plain hgd fun K hK => ?_
  have hr : (Instr.range t (.map none)).run P w = .ok (.pointer (some ⟨w.heap.size, 0, none⟩)) (w.alloc (.mapIter none 0 #[] 0)) := by
    simp [Instr.range, run_underlying hu]
  have u := upd_alloc w (.mapIter none 0 #[] 0)
  rw [hM.size] at u hr
  unfold Oper.wp
  simp only [execOp, ho, hx, Sem.run_bind, hr, Result.andThen_ok, Sem.run_pure]
  exact hK _ _ (h _ (hM.push u))
theorem m_next_one (hgd : op.guard = none) (x : Operand) (ho : op.op = .next x false) (jr j since last c : Nat) (e : MapEntry) (hx : a.eval x = .pointer (some ⟨B + jr, 0, none⟩)) (hM : Mem w0 w B L) (hr : L[jr]? = some (.mapIter (some (B + j)) since #[] last)) (hb : L[j]? = some (.map #[e] c)) (hlt : e.born < since)
    (h : ∀ w1, Mem w0 w1 B (L.set jr (.mapIter (some (B + j)) since #[e.born] c)) → wpList P ops Q rest (a.put op.dst (.tuple #[.bool true, e.key, e.val])) w1) : wpList P ops Q (op :: rest) a w := by
  refine wpList_plain hgd fun K hK => ?_
  have h1 := nx_one (P := P) op.type (hM.get hr) (hM.get hb) hlt
  have := hM.set (List.getElem?_eq_some_iff.1 hr).1 (upd_setObj w (B + jr) (.mapIter (some (B + j)) since #[e.born] c) _ (hM.get hr))
  unfold Oper.wp
  simp only [execOp, ho, hx, Sem.run_bind, h1, Result.andThen_ok, Sem.run_pure]
  exact hK _ _ (h _ this)
theorem m_next_over (hgd : op.guard = none) (x : Operand) (ho : op.op = .next x false) (hrun : (Instr.next (a.eval x) false op.type).run P w = .ok (.tuple #[.bool false]) w)
    (h : wpList P ops Q rest (a.put op.dst (.tuple #[.bool false])) w) : wpList P ops Q (op :: rest) a w := by
  refine wpList_plain hgd fun K hK => ?_
  unfold Oper.wp
  simp only [execOp, ho, Sem.run_bind, hrun, Result.andThen_ok, Sem.run_pure]
  exact hK _ _ h
theorem m_entry (hgd : op.guard = none) (x : Operand) (ho : op.op = .entry x) (jr j since c : Nat) (e : MapEntry) (hx : a.eval x = .pointer (some ⟨B + jr, 0, none⟩)) (hM : Mem w0 w B L) (hr : L[jr]? = some (.mapIter (some (B + j)) since #[e.born] c)) (hb : L[j]? = some (.map #[e] c))
    (h : wpList P ops Q rest (a.put op.dst (.tuple #[e.key, e.val])) w) : wpList P ops Q (op :: rest) a w := by
  refine wpList_plain hgd fun K hK => ?_
  have h1 := en_one (P := P) (hM.get hr) (hM.get hb)
  unfold Oper.wp
  simp only [execOp, ho, hx, Sem.run_bind, h1, Result.andThen_ok, Sem.run_pure]
  exact hK _ _ h
end
end Go.Proofs.Ybulkdufc
