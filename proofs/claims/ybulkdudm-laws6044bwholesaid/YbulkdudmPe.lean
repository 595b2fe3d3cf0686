/-
  Peers in memory: a row of them.
-/
import Derived.Test.YbulkdudmRow
namespace Go.Proofs.Ybulkdudm.Pe
open Go.RowKit Go.Split
open Extern.Stop (cell)

structure Ev where
  id : List UInt8
  addr : ByteArray
  start : Int
def z0 : Ev := ⟨List.replicate 16 0, ByteArray.empty, 0⟩
def ec (e : Ev) : Array Value := kc e.id ++ #[.string e.addr, .int .u64 e.start]
/-- The cells of a row of them. -/
def ecs (l : List Ev) : Array Value := (l.flatMap fun e => (ec e).toList).toArray
/-- Each has its sixteen bytes. -/
def evsOk (l : List Ev) : Prop := ∀ e ∈ l, e.id.length = 16
theorem ec_size {e : Ev} (h : e.id.length = 16) : (ec e).size = 18 := by simp [ec, kc_size, h]
theorem ec_one (e : Ev) : (ec e).all (·.oneCell') = true := by
  rw [Array.all_eq_true_iff_forall_mem]
  intro v hv
  unfold ec kc at hv
  simp at hv
  rcases hv with ⟨x, _, rfl⟩ | rfl | rfl <;> rfl
theorem ec_id {e : Ev} (h : e.id.length = 16) : (ec e).extract 0 (0 + 16) = kc e.id := by
  unfold ec kc
  apply Array.ext'
  simp [h]
theorem size31 : (Yba.prog.info? 31).map (·.size) = some 18 := by kernel_rfl
theorem info31 : (Yba.prog.info? 31).map (fun i => (i.zero, i.size, i.bytes)) = some (some (.agg (ec z0)), 18, 40) := by kernel_rfl
theorem zero31 : (Yba.prog.info? 31).map (·.zero) = some (some (.agg (ec z0))) := by kernel_rfl
theorem ecs_get : ∀ (l : List Ev), evsOk l → ∀ j, (ecs l)[j]? = (l[j / 18]?).bind fun e => (ec e)[j % 18]?
  | [], _, j => by simp [ecs]
  | e :: l, h, j => by
    have he := ec_size (h e (List.mem_cons_self ..))
    have hel : (ec e).toList.length = 18 := by simpa using he
    have ih := ecs_get l (fun x hx => h x (List.mem_cons_of_mem _ hx))
    have e1 : (ecs (e :: l))[j]? = ((ec e).toList ++ l.flatMap fun e => (ec e).toList)[j]? := by simp [ecs]
    rw [e1]
    by_cases hj : j < 18
    · rw [List.getElem?_append_left (by omega)]
      have h1 : j / 18 = 0 := by omega
      have h2 : j % 18 = j := by omega
      rw [h1, h2]
      simp
    · rw [List.getElem?_append_right (by omega), hel]
      have h3 := ih (j - 18)
      have e2 : (ecs l)[j - 18]? = (l.flatMap fun e => (ec e).toList)[j - 18]? := by simp [ecs]
      rw [← e2, h3]
      have h1 : j / 18 = (j - 18) / 18 + 1 := by omega
      have h2 : j % 18 = (j - 18) % 18 := by omega
      rw [h1, h2]
      simp
theorem ecs_size : ∀ (l : List Ev), evsOk l → (ecs l).size = l.length * 18
  | [], _ => by simp [ecs]
  | e :: l, h => by
    have he := ec_size (h e (List.mem_cons_self ..))
    have ih := ecs_size l (fun x hx => h x (List.mem_cons_of_mem _ hx))
    simp only [ecs, List.size_toArray, List.flatMap_cons, List.length_append, Array.length_toList] at ih ⊢
    rw [ih, he]; simp; omega
theorem evsOk.getD {l : List Ev} (h : evsOk l) (i : Nat) : (l.getD i z0).id.length = 16 := by
  by_cases hi : i < l.length
  · have : l.getD i z0 ∈ l := by simp [List.getD, hi]
    exact h _ this
  · simp [List.getD, hi, z0]
theorem evsOk.set {l : List Ev} (h : evsOk l) {e : Ev} (he : e.id.length = 16) (i : Nat) : evsOk (l.set i e) := by
  intro x hx
  rcases List.mem_or_eq_of_mem_set hx with hx | rfl
  · exact h x hx
  · exact he
/-- One event out of the row. -/
theorem ecs_extract {l : List Ev} (h : evsOk l) {i : Nat} (hi : i < l.length) : (ecs l).extract (0 + i * 18) (0 + i * 18 + 18) = ec (l.getD i z0) := by
  have hz := ec_size (h.getD i)
  apply Array.ext_getElem?
  intro j
  rw [Array.getElem?_extract, ecs_size l h]
  by_cases hj : j < 18
  · rw [if_pos (by omega), ecs_get l h]
    have h1 : (0 + i * 18 + j) / 18 = i := by omega
    have h2 : (0 + i * 18 + j) % 18 = j := by omega
    rw [h1, h2]
    simp [List.getD, hi]
  · rw [if_neg (by omega), Array.getElem?_eq_none (by omega)]

theorem ecs_set {l : List Ev} (h : evsOk l) {e : Ev} (he : e.id.length = 16) {i : Nat} (hi : i < l.length) : putCells (ecs l) (0 + i * 18) (ec e).toList = ecs (l.set i e) := by
  have hz := ec_size he
  have hs := ecs_size l h
  apply Array.ext_getElem?
  intro j
  have hl : (ec e).toList.length = 18 := by simpa using hz
  rw [putCells_get _ _ _ _ (by rw [hl, hs]; omega), hl, ecs_get _ (h.set he i)]
  by_cases hj : 0 + i * 18 ≤ j ∧ j < 0 + i * 18 + 18
  · rw [if_pos hj]
    have h1 : j / 18 = i := by omega
    have h2 : j % 18 = j - (0 + i * 18) := by omega
    rw [h1, h2]
    simp [hi]
  · rw [if_neg hj, ecs_get l h]
    have h1 : i ≠ j / 18 := by omega
    rw [List.getElem?_set_ne h1]

theorem ecs_append (l m : List Ev) : (ecs (l ++ m)) = ecs l ++ ecs m := by simp [ecs]
theorem ecs_one (e : Ev) : ecs [e] = ec e := by simp [ecs]
theorem ecs_zeros (k : Nat) : Builtin.zeroCells (ec z0) k = ecs (List.replicate k z0) := by
  have hok : evsOk (List.replicate k z0) := fun x hx => by rw [List.eq_of_mem_replicate hx]; rfl
  have hz : (ec z0).size = 18 := ec_size rfl
  apply Array.ext_getElem?
  intro j
  rw [ecs_get _ hok]
  unfold Builtin.zeroCells
  rw [hz]
  by_cases hj : j < k * 18
  · have h1 : j / 18 < k := by omega
    have h2 : j % 18 < (ec z0).size := by rw [hz]; omega
    have e1 : ((Array.range (k * 18)).map fun i => (ec z0)[i % 18]!)[j]? = some ((ec z0)[j % 18]!) := by simp [hj]
    have e2 : (List.replicate k z0)[j / 18]? = some z0 := by simp [h1]
    rw [e1, e2, getElem!_pos (ec z0) (j % 18) h2]
    simp [h2]
  · have h1 : ¬ j / 18 < k := by omega
    simp [h1]
    omega
theorem ecs_take_range {w : World} {g n : Nat} {L : List Ev} {t : TypeId} {fr : Nat × Nat} (hb : w.heap[g]? = some (.cells (ecs L) t fr)) : w.rangeAt g 0 (ecs (L.take n)).toList := by
  intro j v hj
  rw [cell_of_row w g (0 + j) _ _ _ hb, Nat.zero_add]
  have e1 : ecs L = ecs (L.take n) ++ ecs (L.drop n) := by rw [← ecs_append, List.take_append_drop]
  have hlt : j < (ecs (L.take n)).size := by
    have := (List.getElem?_eq_some_iff.1 hj).1
    simpa using this
  rw [e1, Array.getElem?_append_left hlt]
  simpa using hj

end Go.Proofs.Ybulkdudm.Pe
