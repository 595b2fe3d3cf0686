/-
  PLAIN: the greedy embedding. No Go here.
-/
namespace Go.Proofs.Ybulkdudm

abbrev Key := List UInt8
/-- How many of P's head are met in order among the first x of W. -/
def kept (W P : Nat → Key) (n : Nat) : Nat → Nat
  | 0 => 0
  | x + 1 => if kept W P n x < n ∧ P (kept W P n x) = W x then kept W P n x + 1 else kept W P n x
/-- Is W's x-th met? -/
def met (W P : Nat → Key) (n x : Nat) : Bool := decide (kept W P n x < n ∧ P (kept W P n x) = W x)
/-- The ones that are not met, in order. -/
def left (W P : Nat → Key) (n : Nat) : Nat → List Key
  | 0 => []
  | x + 1 => if met W P n x = true then left W P n x else left W P n x ++ [W x]

section
variable {W P : Nat → Key} {n : Nat}
theorem kept_succ (x : Nat) : kept W P n (x + 1) = if met W P n x = true then kept W P n x + 1 else kept W P n x := by
  rw [kept]; simp only [met, decide_eq_true_eq]
theorem kept_le (x : Nat) : kept W P n x ≤ n := by
  induction x with
  | zero => exact Nat.zero_le _
  | succ x ih => rw [kept]; split <;> omega
theorem kept_step (x : Nat) : kept W P n x ≤ kept W P n (x + 1) := by rw [kept_succ]; split <;> omega
theorem kept_mono {x y : Nat} (h : x ≤ y) : kept W P n x ≤ kept W P n y := by
  induction h with
  | refl => exact Nat.le_refl _
  | step _ ih => exact Nat.le_trans ih (kept_step _)
theorem kept_skip {i j : Nat} (h : kept W P n i = j) (hne : P j ≠ W i) : kept W P n (i + 1) = j ∧ met W P n i = false := by
  have : met W P n i = false := by simp [met, h, hne]
  rw [kept_succ, this]; simp [h]
theorem kept_take {i j : Nat} (h : kept W P n i = j) (hj : j < n) (he : P j = W i) : kept W P n (i + 1) = j + 1 ∧ met W P n i = true := by
  have : met W P n i = true := by simp [met, h, he, hj]
  rw [kept_succ, this]; simp [h]
/-- Behind the last one that is met none is. -/
theorem met_behind {i m x : Nat} (h : kept W P n i = kept W P n m) (hx : i ≤ x) (hm : x < m) : met W P n x = false := by
  cases hmx : met W P n x with
  | false => rfl
  | true =>
    have h1 := kept_succ (W := W) (P := P) (n := n) x
    rw [hmx, if_pos rfl] at h1
    have h2 := kept_mono (W := W) (P := P) (n := n) hx
    have h3 := kept_mono (W := W) (P := P) (n := n) (show x + 1 ≤ m by omega)
    omega
theorem left_length (x : Nat) : (left W P n x).length ≤ x := by
  induction x with
  | zero => exact Nat.le_refl _
  | succ x ih =>
    rw [left]
    split
    · omega
    · simp; omega
theorem left_ok (hW : ∀ i, (W i).length = 16) (x : Nat) : ∀ y ∈ left W P n x, y.length = 16 := by
  induction x with
  | zero => intro y hy; cases hy
  | succ x ih =>
    rw [left]
    split
    · exact ih
    · intro y hy
      rcases List.mem_append.1 hy with hy | hy
      · exact ih y hy
      · rw [List.mem_singleton.1 hy]; exact hW x
end
end Go.Proofs.Ybulkdudm
