/-
  The arguments of 'sim.LawS6039AWhole', 'sim.LawS6039AOrder', opened: a struct of three integers; a slice of them.
-/
import Derived.Test.YbulkduauMk
import Derived.OpenShut
import Derived.ProofKit
import Derived.Deep.Strs
namespace Go.Proofs.Ybulkduau
open Go.ChangeShapes Go.WideShapes Go.ChangeAt Go.RowKit Go.Deep
open Extern.Stop (cell)

theorem cellsA5 : Yba.prog.cellsOf 5 = 1 := by kernel_rfl
theorem cellsA2 : Yba.prog.cellsOf 2 = 1 := by kernel_rfl
theorem cellsA23 : Yba.prog.cellsOf 23 = 1 := by kernel_rfl
theorem cellsA25 : Yba.prog.cellsOf 25 = 3 := by kernel_rfl

theorem u8_of_wf {n : Int} (h : (Lit.int .u8 n).wf = true) : ∃ x : UInt8, n = x.toNat := by
  have hb : 0 ≤ n ∧ n ≤ 255 := bounds_u8 h
  refine ⟨UInt8.ofNat n.toNat, ?_⟩
  have : n.toNat % 256 = n.toNat := Nat.mod_eq_of_lt (by omega)
  simp [UInt8.toNat_ofNat', this]
  omega

section
variable {H : Type} {enc : TypeId × Value → H} {w : World} {base : Nat} {spare : Nat → Bool} {held : Bool} {fuel : Nat} {cs : List Value} {x : DataW H × List MemPlace}

theorem open_pc (h : DataW.trod enc Yba.prog w base spare held fuel 25 cs = some x) : ∃ (t s : Int) (u : UInt8), cs = (pc t s u.toNat).toList := by
  obtain ⟨y0, y1, y2, n, _, hl, h0, h1, h2⟩ := trod_struct3 Yba.underlying25 h
  rw [cellsA25] at hl
  simp only [cellsA2, cellsA23, cellsA5, List.drop_zero] at h0 h1 h2
  obtain ⟨t, h0, _⟩ := DataW.trod_int Yba.underlying2 h0
  obtain ⟨s, h1, _⟩ := DataW.trod_int Yba.underlying23 h1
  obtain ⟨u, h2, _, hwf⟩ := DataW.trod_int Yba.underlying5 h2
  obtain ⟨ub, rfl⟩ := u8_of_wf hwf
  refine ⟨t, s, ub, ?_⟩
  match cs, hl with
  | [c0, c1, c2], _ =>
    simp at h0 h1 h2
    subst h0; subst h1; subst h2
    rfl

/-- A slice of drawn events: its elements. -/
theorem open_pcs {ao : Option Addr} {len cap : Nat} (h : DataW.trod enc Yba.prog w 0 (fun _ => true) true fuel 22 [.slice ao len cap] = some x) :
    ∃ (b off : Nat) (t s : Nat → Int) (u : Nat → UInt8), (0 < len → Hid (ao = some ⟨b, off, none⟩)) ∧ (0 < len → b < w.heap.size) ∧ (∀ i, i < len → w.rangeAt b (off + i * 3) (pc (t i) (s i) (u i).toNat).toList) ∧ len ≤ maxLen := by
  rcases open_slice Yba.underlying22 h with ⟨hcs, _⟩ | ⟨a, len', cap', m, n, D, Pl, hcs, _, hlc, hmx, hm, _, hel⟩
  · simp at hcs
    obtain ⟨_, rfl, _⟩ := hcs
    exact ⟨0, 0, fun _ => 0, fun _ => 0, fun _ => 0, by omega, by omega, by omega, by omega⟩
  · simp at hcs
    obtain ⟨rfl, rfl, rfl⟩ := hcs
    have hm' : m = cap := by simpa using hm
    rw [cellsA25] at hel
    have hit : ∀ i, i < len → ∃ q : Int × Int × UInt8, w.cells? 0 (a.add (i * 3)) 3 = some (pc q.1 q.2.1 q.2.2.toNat).toList := by
      intro i hi
      obtain ⟨cs', h1, h2⟩ := hel i (by omega)
      obtain ⟨t, s, u, rfl⟩ := open_pc h2
      exact ⟨(t, s, u), h1⟩
    obtain ⟨f, hf⟩ := choose_lt hit
    have hsp : 0 < len → a.spot = none ∧ a.block < w.heap.size := by
      intro hp
      have h1 := hf 0 hp
      have h2 := (World.cells?_some h1).2.2 0 (by omega)
      rw [List.getElem?_eq_getElem (by simp [pc])] at h2
      have h3 : (a.add (0 * 3)).add 0 = a := by simp [Addr.add]
      rw [h3] at h2
      exact ⟨World.cell?_spot h2, block_lt_of_cell h2⟩
    refine ⟨a.block, a.off, fun i => (f i).1, fun i => (f i).2.1, fun i => (f i).2.2, ?_, fun hp => (hsp hp).2, ?_, by omega⟩
    · intro hp
      have := (hsp hp).1
      show some a = _
      cases a; simp_all
    · intro i hi j v hj
      have h1 := hf i hi
      have hj' : j < 3 := by
        have := (List.getElem?_eq_some_iff.1 hj).1
        simpa [pc] using this
      have h2 := (World.cells?_some h1).2.2 j hj'
      rw [hj] at h2
      have h3 := (hsp (by omega)).1
      obtain ⟨ab, ao', sp⟩ := a
      simp only at h3
      subst h3
      rw [Addr.add_mid, Addr.add_mid] at h2
      exact h2
end
end Go.Proofs.Ybulkduau
