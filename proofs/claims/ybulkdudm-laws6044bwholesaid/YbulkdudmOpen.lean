/-
  The arguments of 'overlay.LawS6044BWhole', opened: a slice of structs of a byte, a string, a number.
-/
import Derived.Test.YbulkdudmLaw0
import Derived.OpenShut
import Derived.ProofKit
import Derived.Deep.Strs
namespace Go.Proofs.Ybulkdudm
open Go.ChangeShapes Go.WideShapes Go.ChangeAt Go.RowKit Go.Deep
open Extern.Stop (cell)

theorem cells5 : Yba.prog.cellsOf 5 = 1 := by kernel_rfl
theorem cells9 : Yba.prog.cellsOf 9 = 1 := by kernel_rfl
theorem cells29 : Yba.prog.cellsOf 29 = 1 := by kernel_rfl
theorem cells39 : Yba.prog.cellsOf 39 = 3 := by kernel_rfl

theorem u8_of_wf {n : Int} (h : (Lit.int .u8 n).wf = true) : ∃ x : UInt8, n = x.toNat := by
  have hb : 0 ≤ n ∧ n ≤ 255 := bounds_u8 h
  refine ⟨UInt8.ofNat n.toNat, ?_⟩
  have : n.toNat % 256 = n.toNat := Nat.mod_eq_of_lt (by omega)
  simp [UInt8.toNat_ofNat', this]
  omega

section
variable {H : Type} {enc : TypeId × Value → H} {w : World} {base : Nat} {spare : Nat → Bool} {held : Bool} {fuel : Nat} {cs : List Value} {x : DataW H × List MemPlace}

theorem open_pc (h : DataW.trod enc Yba.prog w base spare held fuel 39 cs = some x) : ∃ (u : UInt8) (s : ByteArray) (t : Int), cs = [.int .u8 u.toNat, .string s, .int .u64 t] := by
  obtain ⟨y0, y1, y2, n, _, hl, h0, h1, h2⟩ := trod_struct3 Yba.underlying39 h
  rw [cells39] at hl
  simp only [cells5, cells9, cells29, List.drop_zero] at h0 h1 h2
  obtain ⟨u, h0, _, hwf⟩ := DataW.trod_int Yba.underlying5 h0
  obtain ⟨s, h1, _⟩ := DataW.trod_string Yba.underlying9 h1
  obtain ⟨t, h2, _⟩ := DataW.trod_int Yba.underlying29 h2
  obtain ⟨ub, rfl⟩ := u8_of_wf hwf
  refine ⟨ub, s, t, ?_⟩
  match cs, hl with
  | [c0, c1, c2], _ =>
    simp at h0 h1 h2
    subst h0; subst h1; subst h2
    rfl

/-- A slice of drawn peers: its elements. -/
theorem open_pcs {ao : Option Addr} {len cap : Nat} (h : DataW.trod enc Yba.prog w 0 (fun _ => true) true fuel 22 [.slice ao len cap] = some x) :
    (∃ E, In w ao len E) ∧ len ≤ maxLen := by
  rcases open_slice Yba.underlying22 h with ⟨hcs, _⟩ | ⟨a, len', cap', m, n, D, Pl, hcs, _, hlc, hmx, hm, _, hel⟩
  · simp at hcs
    obtain ⟨_, rfl, _⟩ := hcs
    exact ⟨⟨fun _ => ⟨idOf 0, ByteArray.empty, 0⟩, ⟨0, 0, fun _ => 0, fun _ => ByteArray.empty, fun _ => 0, fun _ => rfl, by omega, by omega, by omega⟩⟩, by omega⟩
  · simp at hcs
    obtain ⟨rfl, rfl, rfl⟩ := hcs
    have hm' : m = cap := by simpa using hm
    rw [cells39] at hel
    have hit : ∀ i, i < len → ∃ q : UInt8 × ByteArray × Int, w.cells? 0 (a.add (i * 3)) 3 = some [.int .u8 q.1.toNat, .string q.2.1, .int .u64 q.2.2] := by
      intro i hi
      obtain ⟨cs', h1, h2⟩ := hel i (by omega)
      obtain ⟨u, s, t, rfl⟩ := open_pc h2
      exact ⟨(u, s, t), h1⟩
    obtain ⟨f, hf⟩ := choose_lt hit
    have hsp : 0 < len → a.spot = none ∧ a.block < w.heap.size := by
      intro hp
      have h1 := hf 0 hp
      have h2 := (World.cells?_some h1).2.2 0 (by omega)
      rw [List.getElem?_eq_getElem (by simp)] at h2
      have h3 : (a.add (0 * 3)).add 0 = a := by simp [Addr.add]
      rw [h3] at h2
      exact ⟨World.cell?_spot h2, block_lt_of_cell h2⟩
    refine ⟨⟨fun i => ⟨idOf (f i).1, (f i).2.1, (f i).2.2⟩, ⟨a.block, a.off, fun i => (f i).1, fun i => (f i).2.1, fun i => (f i).2.2, fun _ => rfl, ?_, fun hp => (hsp hp).2, ?_⟩⟩, by omega⟩
    · intro hp
      have := (hsp hp).1
      show some a = _
      cases a; simp_all
    · intro i hi
      have h1 := hf i hi
      have h3 := (hsp (by omega)).1
      obtain ⟨ab, ao', sp⟩ := a
      simp only at h3
      subst h3
      have key : ∀ j v, j < 3 → [Value.int .u8 (f i).1.toNat, .string (f i).2.1, .int .u64 (f i).2.2][j]? = some v → w.cell? ⟨ab, ao' + i * 3 + j, none⟩ = some v := by
        intro j v hj hv
        have h2 := (World.cells?_some h1).2.2 j hj
        rw [hv] at h2
        rw [Addr.add_mid, Addr.add_mid] at h2
        exact h2
      exact ⟨key 0 _ (by omega) rfl, key 1 _ (by omega) rfl, key 2 _ (by omega) rfl⟩
end
end Go.Proofs.Ybulkdudm
