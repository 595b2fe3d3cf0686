/-
  The arguments of law C, opened: a slice of [20]byte; a slice of bools.
-/
import Derived.Test.YbulkduauOpen
namespace Go.Proofs.Ybulkduau
open Go.ChangeShapes Go.WideShapes Go.ChangeAt Go.RowKit Go.Deep
open Extern.Stop (cell)
theorem cells4 : Yba.prog.cellsOf 4 = 1 := by kernel_rfl
theorem spot_of_cell {w : World} {a : Addr} {v : Value} (h : w.cell? a = some v) : a = ⟨a.block, a.off, none⟩ := by
  have := World.cell?_spot h
  cases a; simp_all

section
variable {H : Type} {enc : TypeId × Value → H} {w : World} {fuel : Nat} {x : DataW H × List MemPlace}
theorem open_keys {ao : Option Addr} {len cap : Nat} (h : DataW.trod enc Yba.prog w 0 (fun _ => true) true fuel 55 [.slice ao len cap] = some x) :
    ∃ (b off : Nat) (X : Nat → List UInt8), (0 < len → Hid (ao = some ⟨b, off, none⟩)) ∧ (0 < len → b < w.heap.size) ∧ (∀ i, (X i).length = 20) ∧ (∀ i, i < len → w.rangeAt b (off + i * 20) (kc (X i)).toList) ∧ len ≤ maxLen := by
  rcases open_slice Yba.underlying55 h with ⟨hcs, _⟩ | ⟨a, len', cap', m, n, D, Pl, hcs, _, hlc, hmx, hm, _, hel⟩
  · simp at hcs
    obtain ⟨_, rfl, _⟩ := hcs
    exact ⟨0, 0, fun _ => List.replicate 20 0, by omega, by omega, by simp, by omega, by omega⟩
  · simp at hcs
    obtain ⟨rfl, rfl, rfl⟩ := hcs
    have hm' : m = cap := by simpa using hm
    rw [cells29] at hel
    have hit : ∀ i, i < len → ∃ q : List UInt8, q.length = 20 ∧ w.cells? 0 (a.add (i * 20)) 20 = some (kc q).toList := by
      intro i hi
      obtain ⟨cs', h1, h2⟩ := hel i (by omega)
      obtain ⟨xs, hx, rfl⟩ := open_key Yba.underlying29 cells29 h2
      exact ⟨xs, hx, by rw [h1]; simp [kc]⟩
    obtain ⟨f, hf⟩ := choose_lt hit
    have hsp : 0 < len → a.spot = none ∧ a.block < w.heap.size := by
      intro hp
      have h1 := hf 0 hp
      have h2 := (World.cells?_some h1.2).2.2 0 (by omega)
      rw [List.getElem?_eq_getElem (by simp [kc_size, h1.1])] at h2
      have h3 : (a.add (0 * 20)).add 0 = a := by simp [Addr.add]
      rw [h3] at h2
      exact ⟨World.cell?_spot h2, block_lt_of_cell h2⟩
    refine ⟨a.block, a.off, fun i => if i < len then f i else List.replicate 20 0, ?_, fun hp => (hsp hp).2, ?_, ?_, by omega⟩
    · intro hp
      have := (hsp hp).1
      show some a = _
      cases a; simp_all
    · intro i
      show (if i < len then f i else _).length = 20
      split
      · exact (hf i (by assumption)).1
      · simp
    · intro i hi j v hj
      have h1 := hf i hi
      simp only [hi, if_true] at hj
      have hj' : j < 20 := by
        have := (List.getElem?_eq_some_iff.1 hj).1
        simpa [kc_size, h1.1] using this
      have h2 := (World.cells?_some h1.2).2.2 j hj'
      rw [hj] at h2
      have h3 := (hsp (by omega)).1
      obtain ⟨ab, ao', sp⟩ := a
      simp only at h3
      subst h3
      rw [Addr.add_mid, Addr.add_mid] at h2
      exact h2

theorem open_bools {ao : Option Addr} {len cap : Nat} (h : DataW.trod enc Yba.prog w 0 (fun _ => true) true fuel 56 [.slice ao len cap] = some x) :
    ∃ (b off : Nat) (V : Nat → Bool), (0 < len → Hid (ao = some ⟨b, off, none⟩)) ∧ (0 < len → b < w.heap.size) ∧ (∀ i, i < len → w.cell? ⟨b, off + i, none⟩ = some (.bool (V i))) ∧ len ≤ maxLen := by
  rcases open_slice1 Yba.underlying56 cells4 h with ⟨hcs, _⟩ | ⟨a, len', cap', m, n, V, D, Pl, hcs, _, hlc, hmx, hm, _, hel⟩
  · simp at hcs
    obtain ⟨_, rfl, _⟩ := hcs
    exact ⟨0, 0, fun _ => false, by omega, by omega, by omega, by omega⟩
  · simp at hcs
    obtain ⟨rfl, rfl, rfl⟩ := hcs
    have hm' : m = cap := by simpa using hm
    have hit : ∀ i, i < len → ∃ q : Bool, w.cell? (a.add i) = some (.bool q) := by
      intro i hi
      obtain ⟨h1, h2⟩ := hel i (by omega)
      have : ∃ q, V i = .bool q := by
        cases n with
        | zero => simp [DataW.trod] at h2
        | succ n =>
          unfold DataW.trod at h2
          rw [Yba.underlying4] at h2
          split at h2 <;> simp_all
      obtain ⟨q, hq⟩ := this
      exact ⟨q, by rw [h1, hq]⟩
    obtain ⟨f, hf⟩ := choose_lt hit
    have hsp : 0 < len → a.spot = none ∧ a.block < w.heap.size := by
      intro hp
      have h2 := hf 0 hp
      have h3 : a.add 0 = a := by simp [Addr.add]
      rw [h3] at h2
      exact ⟨World.cell?_spot h2, block_lt_of_cell h2⟩
    refine ⟨a.block, a.off, f, ?_, fun hp => (hsp hp).2, ?_, by omega⟩
    · intro hp
      have := (hsp hp).1
      show some a = _
      cases a; simp_all
    · intro i hi
      have h1 := hf i hi
      have h3 := (hsp (by omega)).1
      obtain ⟨ab, ao', sp⟩ := a
      simp only at h3
      subst h3
      rw [Addr.add_mid] at h1
      exact h1
end
end Go.Proofs.Ybulkduau
