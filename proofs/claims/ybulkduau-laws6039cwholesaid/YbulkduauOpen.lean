/-
  The arguments of this seat's laws, opened: [20]byte; a slice of items.
-/
import Derived.Test.YbulkduauB
import Derived.OpenShut
import Derived.ProofKit
import Derived.Deep.Strs
namespace Go.Proofs.Ybulkduau
open Go.ChangeShapes Go.WideShapes Go.ChangeAt Go.RowKit Go.Deep
open Extern.Stop (cell)

theorem cells5 : Yba.prog.cellsOf 5 = 1 := by kernel_rfl
theorem cells29 : Yba.prog.cellsOf 29 = 20 := by kernel_rfl
theorem cells2 : Yba.prog.cellsOf 2 = 1 := by kernel_rfl
theorem cells3 : Yba.prog.cellsOf 3 = 1 := by kernel_rfl
theorem cells48 : Yba.prog.cellsOf 48 = 22 := by kernel_rfl

theorem cell_of_wf {n : Int} (h : (Lit.int .u8 n).wf = true) : ∃ x : UInt8, Value.int .u8 n = cell x := by
  have hb : 0 ≤ n ∧ n ≤ 255 := bounds_u8 h
  refine ⟨UInt8.ofNat n.toNat, ?_⟩
  unfold cell
  congr 1
  have : n.toNat % 256 = n.toNat := Nat.mod_eq_of_lt (by omega)
  simp [UInt8.toNat_ofNat', this]
  omega

section
variable {H : Type} {enc : TypeId × Value → H} {w : World} {base : Nat} {spare : Nat → Bool} {held : Bool} {fuel : Nat} {cs : List Value} {x : DataW H × List MemPlace}

/-- A [20]byte reads as twenty bytes. -/
theorem open_key {t : TypeId} (ht : Yba.prog.underlying t = some (.array 20 5)) (hc : Yba.prog.cellsOf t = 20) (h : DataW.trod enc Yba.prog w base spare held fuel t cs = some x) : ∃ xs : List UInt8, xs.length = 20 ∧ cs = xs.map cell := by
  obtain ⟨ys, m, _, _, hl, hy, hel⟩ := DataW.trod_array ht h
  rw [hc] at hl
  obtain ⟨f, hf⟩ := choose_lt (α := UInt8) (n := 20) (p := fun i b => cs[i]? = some (cell b)) (fun i hi => by
    have h1 := hel i hi
    rw [cells5, Nat.mul_one, List.getElem?_eq_getElem (by omega)] at h1
    obtain ⟨n, hn, _, hwf⟩ := DataW.trod_int Yba.underlying5 h1
    obtain ⟨b, hb⟩ := cell_of_wf hwf
    refine ⟨b, ?_⟩
    have h2 : ((cs.drop i).take 1)[0]? = cs[i]? := by simp
    rw [← h2, hn, hb]
    rfl)
  refine ⟨(List.range 20).map f, by simp, ?_⟩
  apply List.ext_getElem?
  intro i
  by_cases hi : i < 20
  · rw [hf i hi]; simp [hi]
  · rw [List.getElem?_eq_none (by omega), List.getElem?_eq_none (by simp; omega)]

theorem open_item (h : DataW.trod enc Yba.prog w base spare held fuel 48 cs = some x) : ∃ (xs : List UInt8) (e p : Int), xs.length = 20 ∧ cs = (ic xs e p).toList := by
  obtain ⟨y0, y1, y2, n, _, hl, h0, h1, h2⟩ := trod_struct3 Yba.underlying48 h
  rw [cells48] at hl
  simp only [cells29, cells2, cells3, List.drop_zero] at h0 h1 h2
  obtain ⟨xs, hx, h0⟩ := open_key Yba.underlying29 cells29 h0
  obtain ⟨e, h1, _⟩ := DataW.trod_int Yba.underlying2 h1
  obtain ⟨p, h2, _⟩ := DataW.trod_int Yba.underlying3 h2
  refine ⟨xs, e, p, hx, ?_⟩
  have e1 : cs = cs.take 20 ++ ((cs.drop 20).take 1 ++ (cs.drop 21).take 1) := by
    apply List.ext_getElem?
    intro i
    by_cases hi : i < 20
    · rw [List.getElem?_append_left (by simp; omega), List.getElem?_take_of_lt hi]
    · rw [List.getElem?_append_right (by simp; omega)]
      have hlt : (cs.take 20).length = 20 := by simp; omega
      rw [hlt]
      by_cases hi2 : i = 20
      · subst hi2; rw [List.getElem?_append_left (by simp; omega)]; simp
      · by_cases hi3 : i = 21
        · subst hi3; rw [List.getElem?_append_right (by simp; omega)]
          have : (List.take 1 (List.drop 20 cs)).length = 1 := by simp; omega
          rw [this]; simp
        · rw [List.getElem?_eq_none (by omega), List.getElem?_eq_none (by simp; omega)]
  rw [e1, h0, h1, h2]
  simp [ic]

/-- A slice of items: its elements. -/
theorem open_items {ao : Option Addr} {len cap : Nat} (h : DataW.trod enc Yba.prog w 0 (fun _ => true) true fuel 44 [.slice ao len cap] = some x) :
    ∃ (b off : Nat) (X : Nat → List UInt8) (e p : Nat → Int), (0 < len → Hid (ao = some ⟨b, off, none⟩)) ∧ (0 < len → b < w.heap.size) ∧ (∀ i, (X i).length = 20) ∧ ∀ i, i < len → w.rangeAt b (off + i * 22) (ic (X i) (e i) (p i)).toList := by
  rcases open_slice Yba.underlying44 h with ⟨hcs, _⟩ | ⟨a, len', cap', m, n, D, Pl, hcs, _, hlc, _, hm, _, hel⟩
  · simp at hcs
    obtain ⟨_, rfl, _⟩ := hcs
    exact ⟨0, 0, fun _ => List.replicate 20 0, fun _ => 0, fun _ => 0, by omega, by omega, by simp, by omega⟩
  · simp at hcs
    obtain ⟨rfl, rfl, rfl⟩ := hcs
    have hm' : m = cap := by simpa using hm
    rw [cells48] at hel
    have hit : ∀ i, i < len → ∃ q : List UInt8 × Int × Int, q.1.length = 20 ∧ w.cells? 0 (a.add (i * 22)) 22 = some (ic q.1 q.2.1 q.2.2).toList := by
      intro i hi
      obtain ⟨cs', h1, h2⟩ := hel i (by omega)
      obtain ⟨xs, e, p, hx, rfl⟩ := open_item h2
      exact ⟨(xs, e, p), hx, h1⟩
    obtain ⟨f, hf⟩ := choose_lt hit
    have hsp : 0 < len → a.spot = none ∧ a.block < w.heap.size := by
      intro hp
      have h1 := hf 0 hp
      have h2 := (World.cells?_some h1.2).2.2 0 (by omega)
      rw [List.getElem?_eq_getElem (by simp [ic_size, h1.1])] at h2
      have h3 : (a.add (0 * 22)).add 0 = a := by simp [Addr.add]
      rw [h3] at h2
      exact ⟨World.cell?_spot h2, block_lt_of_cell h2⟩
    refine ⟨a.block, a.off, fun i => if i < len then (f i).1 else List.replicate 20 0, fun i => (f i).2.1, fun i => (f i).2.2, ?_, fun hp => (hsp hp).2, ?_, ?_⟩
    · intro hp
      have := (hsp hp).1
      show some a = _
      cases a; simp_all
    · intro i
      show (if i < len then (f i).1 else _).length = 20
      split
      · exact (hf i (by assumption)).1
      · simp
    · intro i hi j v hj
      have h1 := hf i hi
      simp only [hi, if_true] at hj
      have hj' : j < 22 := by
        have := (List.getElem?_eq_some_iff.1 hj).1
        simpa [ic_size, h1.1] using this
      have h2 := (World.cells?_some h1.2).2.2 j hj'
      rw [hj] at h2
      have h3 := (hsp (by omega)).1
      obtain ⟨ab, ao', sp⟩ := a
      simp only at h3
      subst h3
      rw [Addr.add_mid, Addr.add_mid] at h2
      exact h2
end
end Go.Proofs.Ybulkduau
