/-
  'sim.LawS6039AWhole': plain parts and the invariants of its loops.
-/
import Derived.Test.YbulkduauHPush
namespace Go.Proofs.Ybulkduau
open Go.RowKit Go.Split
open Extern.Stop (cell)

theorem made_ecs (n : Nat) : madeCells (Value.agg (ec z0)).cells (n * 25) = ecs (List.replicate n z0) := by
  rw [← ecs_zeros]
  have hz : (ec z0).size = 25 := ec_size rfl
  unfold Builtin.zeroCells madeCells
  simp only [Value.cells, hz]

/-- The first k of m events are laid. -/
def rowOf (E : Nat → Ev) (m k : Nat) : List Ev := (List.range m).map fun i => if i < k then E i else z0
theorem rowOf_length (E : Nat → Ev) (m k : Nat) : (rowOf E m k).length = m := by simp [rowOf]
theorem rowOf_zero (E : Nat → Ev) (m : Nat) : rowOf E m 0 = List.replicate m z0 := by
  apply List.ext_getElem?
  intro i
  by_cases hi : i < m <;> simp [rowOf, hi]
theorem rowOf_set (E : Nat → Ev) (m k : Nat) : (rowOf E m k).set k (E k) = rowOf E m (k + 1) := by
  apply List.ext_getElem?
  intro i
  by_cases hm : i < m
  · by_cases hi : k = i
    · subst hi
      simp [rowOf, hm]
    · rw [List.getElem?_set_ne hi]
      have : (i < k) = (i < k + 1) := by apply propext; omega
      simp [rowOf, hm, this]
  · rw [List.getElem?_eq_none (by simp [rowOf]; omega), List.getElem?_eq_none (by simp [rowOf]; omega)]
theorem rowOf_ok {E : Nat → Ev} (hE : ∀ i, (E i).to.length = 20) (m k : Nat) : evsOk (rowOf E m k) := by
  intro x hx
  simp only [rowOf, List.mem_map] at hx
  obtain ⟨i, _, rfl⟩ := hx
  split
  · exact hE i
  · rfl
/-- The climb overwrites its first place: what stood there is of no matter. -/
theorem climb_first (f : Nat) (h : List Ev) (pos : Nat) (x e : Ev) (hf : pos ≤ f) : climb f (h.set pos x) pos e = climb f h pos e := by
  cases f with
  | zero => simp [climb]
  | succ f =>
    unfold climb
    by_cases hp : pos = 0
    · simp [hp]
    · rw [getD_set_ne x (by omega)]
      simp [hp]
theorem rowOf_snoc (E : Nat → Ev) (m : Nat) (e : Ev) : (rowOf E (m + 1) m).set m e = (rowOf E m m).take m ++ [e] := by
  rw [List.take_of_length_le (by rw [rowOf_length]; exact Nat.le_refl _)]
  apply List.ext_getElem?
  intro i
  by_cases hi : m = i
  · subst hi
    rw [List.getElem?_append_right (by rw [rowOf_length]; exact Nat.le_refl _), rowOf_length]
    simp [rowOf]
  · rw [List.getElem?_set_ne hi]
    by_cases hm : i < m
    · rw [List.getElem?_append_left (by rw [rowOf_length]; exact hm)]
      simp [rowOf, hm, show i < m + 1 by omega]
    · rw [List.getElem?_eq_none (by rw [rowOf_length]; omega), List.getElem?_eq_none (by simp [rowOf_length]; omega)]
theorem climb_row (E : Nat → Ev) (m : Nat) (e : Ev) : climb m (rowOf E (m + 1) m) m e = climb m ((rowOf E m m).take m ++ [e]) m e := by
  rw [← rowOf_snoc, climb_first _ _ _ _ _ (Nat.le_refl _)]

/-- While the rows are filled. -/
structure AInv (w wr : World) (B m k : Nat) (E : Nat → Ev) (C : Array Value) : Prop where
  n : wr.heap[B]? = some (.cells C 25 (0, 0))
  evs : wr.heap[B + 1]? = some (.cells (ecs (rowOf E m k)) 34 (0, 0))
  want : wr.heap[B + 2]? = some (.cells (ecs (rowOf E (m + 1) k)) 34 (0, 0))
  size : B + 3 ≤ wr.heap.size
  below : Below B w wr
theorem AInv.next {w wr w1 w2 w3 w4 : World} {B m k M M2 : Nat} {E : Nat → Ev} {C : Array Value} (I : AInv w wr B m k E C) (hM : wr.heap.size = M) (b1 : Below M wr w1) (u2 : Upd w1 w2 (B + 1) (.cells (ecs ((rowOf E m k).set k (E k))) 34 (0, 0)))
    (hM2 : M ≤ M2) (hs2 : w2.heap.size = M2) (b3 : Below M2 w2 w3) (u4 : Upd w3 w4 (B + 2) (.cells (ecs ((rowOf E (m + 1) k).set k (E k))) 34 (0, 0))) : AInv w w4 B m (k + 1) E C := by
  have s := I.size
  have hb2 : Below (B + 1) w1 w2 := u2.below (by omega)
  have hb4 : Below (B + 1) w3 w4 := u4.below (by omega)
  rw [rowOf_set] at u2 u4
  refine ⟨?_, ?_, u4.here, ?_, ?_⟩
  · rw [u4.other B (by omega), b3.block B (by omega), u2.other B (by omega), b1.block B (by omega)]; exact I.n
  · rw [u4.other (B + 1) (by omega), b3.block (B + 1) (by omega)]; exact u2.here
  · have := u4.size; have := b3.size; omega
  · exact I.below.trans ((b1.mono (by omega)).trans ((hb2.mono (by omega)).trans ((b3.mono (by omega)).trans (hb4.mono (by omega)))))

/-- While the hole climbs in 'want'. -/
structure WInv (w wr : World) (B m Eb : Nat) (E : Nat → Ev) (T : List Ev) (e : Ev) (k : Nat) (h : List Ev) : Prop where
  evs : wr.heap[B + 1]? = some (.cells (ecs (rowOf E m m)) 34 (0, 0))
  want : wr.heap[B + 2]? = some (.cells (ecs h) 34 (0, 0))
  ev : wr.heap[Eb]? = some (.cells (ec e) 34 (0, 0))
  lt : B + 3 ≤ Eb
  len : h.length = m + 1
  ok : evsOk h
  goal : climb k h k e = T
  below : Below B w wr
theorem WInv.later {w wr wx : World} {B m Eb M : Nat} {E : Nat → Ev} {T : List Ev} {e : Ev} {k : Nat} {h : List Ev} (I : WInv w wr B m Eb E T e k h) (hM : Eb < M) (b : Below M wr wx) : WInv w wx B m Eb E T e k h := by
  have := I.lt
  exact ⟨(b.block _ (by omega)).trans I.evs, (b.block _ (by omega)).trans I.want, (b.block _ (by omega)).trans I.ev, I.lt, I.len, I.ok, I.goal, I.below.trans (b.mono (by omega))⟩
theorem WInv.up {w wr w2 : World} {B m Eb : Nat} {E : Nat → Ev} {T : List Ev} {e : Ev} {k p : Nat} {h : List Ev} (I : WInv w wr B m Eb E T e k h) (hk : 0 < k) (hp : p = (k - 1) / 2) (hd : due e (h.getD p z0) = true)
    (u2 : Upd wr w2 (B + 2) (.cells (ecs (h.set k (h.getD p z0))) 34 (0, 0))) : WInv w w2 B m Eb E T e p (h.set k (h.getD p z0)) := by
  have := I.lt
  refine ⟨u2.keep (by omega) I.evs, u2.here, u2.keep (by omega) I.ev, I.lt, by simp [I.len], I.ok.set (I.ok.getD p) k, ?_, I.below.trans (u2.below (by omega))⟩
  subst hp
  rw [← climb_up hk hd]
  exact I.goal
end Go.Proofs.Ybulkduau
