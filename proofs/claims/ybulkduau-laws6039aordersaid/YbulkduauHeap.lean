/-
  PLAIN: events, 'due before', the climb of a heap's push. No Go here.
-/
namespace Go.Proofs.Ybulkduau

/-- at, seq, to. -/
structure Ev where
  t : Int
  s : Int
  to : List UInt8

/-- e is due strictly before f. -/
def due (e f : Ev) : Bool := decide (e.t < f.t) || (decide (e.t = f.t) && decide (e.s < f.s))
theorem due_iff (e f : Ev) : due e f = true ↔ e.t < f.t ∨ (e.t = f.t ∧ e.s < f.s) := by simp [due]
theorem due_false (e f : Ev) : due e f = false ↔ ¬ (e.t < f.t ∨ (e.t = f.t ∧ e.s < f.s)) := by
  rw [← due_iff]; simp

def z0 : Ev := ⟨0, 0, List.replicate 20 0⟩
/-- The hole climbs from 'pos' till e is not due before the parent; then e is laid there. -/
def climb : Nat → List Ev → Nat → Ev → List Ev
  | 0, h, pos, e => h.set pos e
  | f + 1, h, pos, e => if pos = 0 then h.set pos e else if due e (h.getD ((pos - 1) / 2) z0) = true then climb f (h.set pos (h.getD ((pos - 1) / 2) z0)) ((pos - 1) / 2) e else h.set pos e

theorem climb_length : ∀ (f : Nat) (h : List Ev) (pos : Nat) (e : Ev), (climb f h pos e).length = h.length
  | 0, h, pos, e => by simp [climb]
  | f + 1, h, pos, e => by
    unfold climb
    split
    · simp
    · split
      · rw [climb_length]; simp
      · simp

/-- Fuel beyond the place changes nothing. -/
theorem climb_fuel : ∀ (f g : Nat) (h : List Ev) (pos : Nat) (e : Ev), pos ≤ f → pos ≤ g → climb f h pos e = climb g h pos e
  | 0, 0, h, pos, e, _, _ => rfl
  | 0, g + 1, h, pos, e, h1, _ => by
    obtain rfl : pos = 0 := by omega
    simp [climb]
  | f + 1, 0, h, pos, e, _, h2 => by
    obtain rfl : pos = 0 := by omega
    simp [climb]
  | f + 1, g + 1, h, pos, e, h1, h2 => by
    unfold climb
    split
    · rfl
    · split
      · exact climb_fuel f g _ _ e (by omega) (by omega)
      · rfl

theorem climb_up {h : List Ev} {pos : Nat} {e : Ev} (hp : 0 < pos) (hd : due e (h.getD ((pos - 1) / 2) z0) = true) :
    climb pos h pos e = climb ((pos - 1) / 2) (h.set pos (h.getD ((pos - 1) / 2) z0)) ((pos - 1) / 2) e := by
  obtain ⟨f, rfl⟩ : ∃ f, pos = f + 1 := ⟨pos - 1, by omega⟩
  rw [climb, if_neg (by omega), if_pos hd]
  exact climb_fuel _ _ _ _ _ (by omega) (Nat.le_refl _)
theorem climb_stop {h : List Ev} {pos : Nat} {e : Ev} (hd : 0 < pos → due e (h.getD ((pos - 1) / 2) z0) = false) : climb pos h pos e = h.set pos e := by
  cases pos with
  | zero => rfl
  | succ f =>
    rw [climb, if_neg (by omega), if_neg (by rw [hd (by omega)]; simp)]

/-- Heap order of the first n events. -/
def Heap (l : List Ev) (n : Nat) : Prop := ∀ j, 1 ≤ j → j < n → due (l.getD j z0) (l.getD ((j - 1) / 2) z0) = false

theorem getD_set_ne {l : List Ev} {i j : Nat} (e : Ev) (h : i ≠ j) : (l.set i e).getD j z0 = l.getD j z0 := by simp [List.getD, List.getElem?_set_ne h]
theorem getD_set_eq {l : List Ev} {i : Nat} (e : Ev) (h : i < l.length) : (l.set i e).getD i z0 = e := by simp [List.getD, h]

/-- The order but for the hole: every pair that leaves the hole out; the hole's children against its parent; and e against the hole's children. -/
structure Hole (h : List Ev) (n pos : Nat) (e : Ev) : Prop where
  lt : pos < n
  len : n ≤ h.length
  pairs : ∀ j, 1 ≤ j → j < n → j ≠ pos → (j - 1) / 2 ≠ pos → due (h.getD j z0) (h.getD ((j - 1) / 2) z0) = false
  kids : 1 ≤ pos → ∀ j, 1 ≤ j → j < n → (j - 1) / 2 = pos → due (h.getD j z0) (h.getD ((pos - 1) / 2) z0) = false
  own : ∀ j, 1 ≤ j → j < n → (j - 1) / 2 = pos → due (h.getD j z0) e = false

theorem Hole.heap {h : List Ev} {n pos : Nat} {e : Ev} (H : Hole h n pos e) (hd : 0 < pos → due e (h.getD ((pos - 1) / 2) z0) = false) : Heap (h.set pos e) n := by
  have hl : pos < h.length := Nat.lt_of_lt_of_le H.lt H.len
  intro j h1 hn
  by_cases e1 : j = pos
  · subst e1
    rw [getD_set_eq e hl, getD_set_ne e (by omega)]
    exact hd (by omega)
  · rw [getD_set_ne e (fun x => e1 x.symm)]
    by_cases e2 : (j - 1) / 2 = pos
    · rw [e2, getD_set_eq e hl]
      exact H.own j h1 hn e2
    · rw [getD_set_ne e (fun x => e2 x.symm)]
      exact H.pairs j h1 hn e1 e2

theorem Hole.up {h : List Ev} {n pos : Nat} {e : Ev} (H : Hole h n pos e) (hp : 0 < pos) (hd : due e (h.getD ((pos - 1) / 2) z0) = true) :
    Hole (h.set pos (h.getD ((pos - 1) / 2) z0)) n ((pos - 1) / 2) e := by
  have hl : pos < h.length := Nat.lt_of_lt_of_le H.lt H.len
  have hlt := H.lt
  refine ⟨by omega, by simpa using H.len, ?_, ?_, ?_⟩
  · intro j h1 hn h2 h3
    by_cases e1 : j = pos
    · subst e1; exact absurd rfl h3
    · rw [getD_set_ne _ (fun x => e1 x.symm)]
      by_cases e2 : (j - 1) / 2 = pos
      · rw [e2, getD_set_eq _ hl]
        exact H.kids hp j h1 hn e2
      · rw [getD_set_ne _ (fun x => e2 x.symm)]
        exact H.pairs j h1 hn e1 e2
  · intro hpp j h1 hn h2
    have hne : pos ≠ ((pos - 1) / 2 - 1) / 2 := by omega
    rw [getD_set_ne _ hne]
    have hpar := H.pairs ((pos - 1) / 2) hpp (by omega) (by omega) (by omega)
    by_cases e1 : j = pos
    · subst e1
      rw [getD_set_eq _ hl]
      exact hpar
    · rw [getD_set_ne _ (fun x => e1 x.symm)]
      have hj := H.pairs j h1 hn e1 (by omega)
      rw [h2] at hj
      rw [due_false] at hpar hj ⊢
      omega
  · intro j h1 hn h2
    by_cases e1 : j = pos
    · subst e1
      rw [getD_set_eq _ hl, due_false]
      rw [due_iff] at hd
      omega
    · rw [getD_set_ne _ (fun x => e1 x.symm)]
      have hj := H.pairs j h1 hn e1 (by omega)
      rw [h2] at hj
      rw [due_iff] at hd
      rw [due_false] at hj ⊢
      omega

theorem Hole.climb {n : Nat} {e : Ev} : ∀ (f : Nat) {h : List Ev} {pos : Nat}, pos ≤ f → Hole h n pos e → Heap (climb f h pos e) n
  | 0, h, pos, hf, H => by
    obtain rfl : pos = 0 := by omega
    exact H.heap (by omega)
  | f + 1, h, pos, hf, H => by
    unfold Ybulkduau.climb
    split
    · exact H.heap (by omega)
    · split
      · rename_i hp hd
        exact Hole.climb f (by omega) (H.up (by omega) hd)
      · rename_i hp hd
        exact H.heap (fun _ => by simpa using hd)

/-- A push onto a heap of n events leaves a heap of n + 1. -/
theorem heap_push {h : List Ev} {n : Nat} {e : Ev} (hh : Heap h n) (hlen : n + 1 ≤ h.length) : Heap (climb n h n e) (n + 1) := by
  refine Hole.climb n (Nat.le_refl _) ⟨by omega, hlen, fun j h1 hn h2 _ => hh j h1 (by omega), ?_, ?_⟩
  · intro hp j h1 hn h2; omega
  · intro j h1 hn h2; omega

end Go.Proofs.Ybulkduau
