/-
  Events in memory: the 25 cells of one; a row of them; loads and stores of one in the middle of a row.
-/
import Derived.Test.YbulkduauB
import Derived.Test.YbulkduauSplit
import Derived.Test.YbulkduauHeap
namespace Go.Proofs.Ybulkduau
open Go.RowKit Go.Split
open Extern.Stop (cell)

/-- The cells of an event whose do, from, m are nil. -/
def ec (e : Ev) : Array Value := #[.int .i64 e.t, .int .u64 e.s, .nilFunc, .pointer .none] ++ kc e.to ++ #[.nilIface]
/-- The cells of a row of events. -/
def ecs (l : List Ev) : Array Value := (l.flatMap fun e => (ec e).toList).toArray
/-- Every 'to' has its twenty bytes. -/
def evsOk (l : List Ev) : Prop := ∀ e ∈ l, e.to.length = 20

theorem ec_size {e : Ev} (h : e.to.length = 20) : (ec e).size = 25 := by simp [ec, kc_size, h]
theorem ec_one (e : Ev) : (ec e).all (·.oneCell') = true := by
  rw [Array.all_eq_true_iff_forall_mem]
  intro v hv
  unfold ec kc at hv
  simp at hv
  rcases hv with rfl | rfl | rfl | rfl | ⟨x, _, rfl⟩ | rfl <;> rfl
theorem ec_t (e : Ev) : (ec e)[0]? = some (.int .i64 e.t) := by simp [ec, kc]
theorem ec_s (e : Ev) : (ec e)[1]? = some (.int .u64 e.s) := by simp [ec, kc]
theorem ec_do (e : Ev) : (ec e)[2]? = some .nilFunc := by simp [ec, kc]
theorem ec_from (e : Ev) : (ec e)[3]? = some (.pointer .none) := by simp [ec, kc]
theorem ec_m {e : Ev} (h : e.to.length = 20) : (ec e)[24]? = some .nilIface := by simp [ec, kc, h]
theorem ec_to {e : Ev} (h : e.to.length = 20) : (ec e).extract 4 (4 + 20) = kc e.to := by
  unfold ec kc
  apply Array.ext'
  simp [h]

theorem ecs_get : ∀ (l : List Ev), evsOk l → ∀ j, (ecs l)[j]? = (l[j / 25]?).bind fun e => (ec e)[j % 25]?
  | [], _, j => by simp [ecs]
  | e :: l, h, j => by
    have he := ec_size (h e (List.mem_cons_self ..))
    have hel : (ec e).toList.length = 25 := by simpa using he
    have ih := ecs_get l (fun x hx => h x (List.mem_cons_of_mem _ hx))
    have e1 : (ecs (e :: l))[j]? = ((ec e).toList ++ l.flatMap fun e => (ec e).toList)[j]? := by simp [ecs]
    rw [e1]
    by_cases hj : j < 25
    · rw [List.getElem?_append_left (by omega)]
      have h1 : j / 25 = 0 := by omega
      have h2 : j % 25 = j := by omega
      rw [h1, h2]
      simp
    · rw [List.getElem?_append_right (by omega), hel]
      have h3 := ih (j - 25)
      have e2 : (ecs l)[j - 25]? = (l.flatMap fun e => (ec e).toList)[j - 25]? := by simp [ecs]
      rw [← e2, h3]
      have h1 : j / 25 = (j - 25) / 25 + 1 := by omega
      have h2 : j % 25 = (j - 25) % 25 := by omega
      rw [h1, h2]
      simp
theorem ecs_size : ∀ (l : List Ev), evsOk l → (ecs l).size = l.length * 25
  | [], _ => by simp [ecs]
  | e :: l, h => by
    have he := ec_size (h e (List.mem_cons_self ..))
    have ih := ecs_size l (fun x hx => h x (List.mem_cons_of_mem _ hx))
    simp only [ecs, List.size_toArray, List.flatMap_cons, List.length_append, Array.length_toList] at ih ⊢
    rw [ih, he]; simp; omega
theorem evsOk.getD {l : List Ev} (h : evsOk l) (i : Nat) : (l.getD i z0).to.length = 20 := by
  by_cases hi : i < l.length
  · have : l.getD i z0 ∈ l := by simp [List.getD, hi]
    exact h _ this
  · simp [List.getD, hi, z0]
theorem evsOk.set {l : List Ev} (h : evsOk l) {e : Ev} (he : e.to.length = 20) (i : Nat) : evsOk (l.set i e) := by
  intro x hx
  rcases List.mem_or_eq_of_mem_set hx with hx | rfl
  · exact h x hx
  · exact he
/-- One event out of the row. -/
theorem ecs_extract {l : List Ev} (h : evsOk l) {i : Nat} (hi : i < l.length) : (ecs l).extract (0 + i * 25) (0 + i * 25 + 25) = ec (l.getD i z0) := by
  have hz := ec_size (h.getD i)
  apply Array.ext_getElem?
  intro j
  rw [Array.getElem?_extract, ecs_size l h]
  by_cases hj : j < 25
  · rw [if_pos (by omega), ecs_get l h]
    have h1 : (0 + i * 25 + j) / 25 = i := by omega
    have h2 : (0 + i * 25 + j) % 25 = j := by omega
    rw [h1, h2]
    simp [List.getD, hi]
  · rw [if_neg (by omega), Array.getElem?_eq_none (by omega)]

/-- Cells written one behind the other. -/
def putCells (C : Array Value) (o : Nat) : List Value → Array Value
  | [] => C
  | v :: r => putCells (C.setIfInBounds o v) (o + 1) r
theorem putCells_size : ∀ (vs : List Value) (C : Array Value) (o : Nat), (putCells C o vs).size = C.size
  | [], _, _ => rfl
  | v :: r, C, o => by rw [putCells, putCells_size r]; simp
theorem putCells_get : ∀ (vs : List Value) (C : Array Value) (o j : Nat), o + vs.length ≤ C.size → (putCells C o vs)[j]? = if o ≤ j ∧ j < o + vs.length then vs[j - o]? else C[j]?
  | [], C, o, j, _ => by rw [if_neg (by simp only [List.length_nil]; omega)]; rfl
  | v :: r, C, o, j, h => by
    simp only [List.length_cons] at h
    rw [putCells, putCells_get r _ (o + 1) j (by simp; omega)]
    by_cases hj : j = o
    · subst hj
      rw [if_neg (by omega), if_pos (by simp), Nat.sub_self, List.getElem?_cons_zero]
      simp [show j < C.size by omega]
    · rw [Array.getElem?_setIfInBounds_ne (fun e => hj e.symm)]
      by_cases h1 : o + 1 ≤ j ∧ j < o + 1 + r.length
      · rw [if_pos h1, if_pos (by simp; omega)]
        have : j - o = (j - (o + 1)) + 1 := by omega
        rw [this]; simp
      · rw [if_neg h1, if_neg (by simp; omega)]
theorem ecs_set {l : List Ev} (h : evsOk l) {e : Ev} (he : e.to.length = 20) {i : Nat} (hi : i < l.length) : putCells (ecs l) (0 + i * 25) (ec e).toList = ecs (l.set i e) := by
  have hz := ec_size he
  have hs := ecs_size l h
  apply Array.ext_getElem?
  intro j
  have hl : (ec e).toList.length = 25 := by simpa using hz
  rw [putCells_get _ _ _ _ (by rw [hl, hs]; omega), hl, ecs_get _ (h.set he i)]
  by_cases hj : 0 + i * 25 ≤ j ∧ j < 0 + i * 25 + 25
  · rw [if_pos hj]
    have h1 : j / 25 = i := by omega
    have h2 : j % 25 = j - (0 + i * 25) := by omega
    rw [h1, h2]
    simp [hi]
  · rw [if_neg hj, ecs_get l h]
    have h1 : i ≠ j / 25 := by omega
    rw [List.getElem?_set_ne h1]

theorem upd_trans_same {w w1 w2 : World} {b : Nat} {o1 o2 : Obj} (h1 : Upd w w1 b o1) (h2 : Upd w1 w2 b o2) : Upd w w2 b o2 :=
  ⟨h2.os.trans h1.os, h2.tape.trans h1.tape, h2.output.trans h1.output, by have := h1.size; have := h2.size; omega, h2.here, fun k hk => (h2.other k hk).trans (h1.other k hk)⟩
theorem upd_same {w : World} {b : Nat} {o : Obj} (h : w.heap[b]? = some o) : Upd w w b o := ⟨rfl, rfl, rfl, by have := lt_of_heap h; omega, h, fun _ _ => rfl⟩
theorem upd_setCells (b : Nat) (t : TypeId) (fr : Nat × Nat) : ∀ (vs : List Value) (w : World) (C : Array Value) (o : Nat), w.heap[b]? = some (.cells C t fr) → Upd w (w.setCells b o vs) b (.cells (putCells C o vs) t fr)
  | [], w, C, o, h => upd_same h
  | v :: r, w, C, o, h => by
    have u1 := upd_setCell w b o C t fr v h
    exact upd_trans_same u1 (upd_setCells b t fr r _ _ (o + 1) u1.here)

section
variable {P : Program} {ops : Array Oper} {rest : List Oper} {op : Oper} {a : Act} {w : World} {Q : Exit → Act → World → Prop}
/-- Several cells at once are stored into the middle of a block that is known whole. -/
theorem wl_store_mid (hgd : op.guard = none) (ty : TypeId) (x y : Operand) (ho : op.op = .store ty x y) (b o : Nat) (cells C : Array Value) (t : TypeId) (hx : a.eval x = .pointer (some ⟨b, o, none⟩)) (hy : a.eval y = .agg cells)
    (hb : w.heap[b]? = some (.cells C t (0, 0))) (hle : o + cells.size ≤ C.size) (hi : (P.info? ty).map (·.size) = some cells.size) (h1 : cells.all (·.oneCell') = true) (D : Array Value) (hD : putCells C o cells.toList = D)
    (h : ∀ w1, Upd w w1 b (.cells D t (0, 0)) → wpList P ops Q rest (a.put op.dst undef) w1) : wpList P ops Q (op :: rest) a w := by
  have ht : w.there b o cells.size := fun j hj => ⟨by rw [cell_of_row w b (o + j) C t (0, 0) hb]; simp; omega, frozen_of_row w b _ C t hb⟩
  subst hD
  exact wpList_store_mid hgd ty x y ho b o cells hx hy ht hi h1 (h _ (upd_setCells b t (0, 0) cells.toList w C o hb))
end
theorem size34 : (Yba.prog.info? 34).map (·.size) = some 25 := by kernel_rfl
theorem info34 : (Yba.prog.info? 34).map (fun i => (i.zero, i.size, i.bytes)) = some (some (.agg (ec z0)), 25, 72) := by kernel_rfl
theorem zero34 : (Yba.prog.info? 34).map (·.zero) = some (some (.agg (ec z0))) := by kernel_rfl
end Go.Proofs.Ybulkduau
