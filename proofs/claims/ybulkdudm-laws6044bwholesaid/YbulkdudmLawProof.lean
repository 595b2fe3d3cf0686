/-
  'overlay.LawS6044BWhole' returns true at every input; the arguments read as they did.
-/
import Derived.Test.YbulkdudmOpen
import Derived.Test.YbulkdudmLaw
namespace Go.Proofs.Ybulkdudm.lawBW
open Go.ChangeShapes Go.WideShapes Go.ChangeAt Go.RowKit Go.Deep
open Extern.Stop (cell)

theorem own : ownKnob Yba.prog.godebug = none := by kernel_rfl
theorem laidOut : laidOutB Yba.prog = true := by kernel_rfl

set_option maxRecDepth 100000 in
/-- More than 512 of either: true at once. -/
theorem big1 (w : World) (a1 a2 : Option Addr) (m n c1 c2 : Nat) (hn : 512 < m) (hm : m ≤ maxLen) :
    Calls Yba.prog 3 #[.slice a1 m c1, .slice a2 n c2] w fun e w1 => e = .returned (.bool true) ∧ Below w.heap.size w w1 := by
  unfold maxLen at hm
  have hi : (512 : Int) < (m : Int) := by omega
  go_enter Yba.func3, Yba.ntmps3
  go_wp2
  go_ret
  exact ⟨rfl, Below.refl _ _⟩
set_option maxRecDepth 100000 in
theorem big2 (w : World) (a1 a2 : Option Addr) (m n c1 c2 : Nat) (hm : m ≤ 512) (hn : 512 < n) (hx : n ≤ maxLen) :
    Calls Yba.prog 3 #[.slice a1 m c1, .slice a2 n c2] w fun e w1 => e = .returned (.bool true) ∧ Below w.heap.size w w1 := by
  unfold maxLen at hx
  have hi : ¬ ((512 : Int) < (m : Int)) := by omega
  have hj : (512 : Int) < (n : Int) := by omega
  go_enter Yba.func3, Yba.ntmps3
  go_wp2
  go_ret
  exact ⟨rfl, Below.refl _ _⟩

theorem walk (w : World) (a1 a2 : Option Addr) (m n c1 c2 : Nat) (EW EP : Nat → Pe.Ev) (hI1 : In w a1 m EW) (hI2 : In w a2 n EP) (hm : m ≤ maxLen) (hn : n ≤ maxLen) :
    Calls Yba.prog 3 #[.slice a1 m c1, .slice a2 n c2] w fun e w1 => e = .returned (.bool true) ∧ Below w.heap.size w w1 := by
  rcases Nat.lt_or_ge 512 m with h1 | h1
  · exact big1 w a1 a2 m n c1 c2 h1 hm
  · rcases Nat.lt_or_ge 512 n with h2 | h2
    · exact big2 w a1 a2 m n c1 c2 h1 h2 hn
    · exact law_any w a1 a2 m n c1 c2 _ EW EP rfl hI1 hI2 h1 h2

set_option maxRecDepth 100000 in
theorem lifted (os : Os) (started : os.Started) (H : Type) (enc : TypeId × Value → H) :
    ReturnsInHanded {} Yba.checked os 3 .any (Rows.lawS6044BWholeSpec.pre6 enc Yba.prog Yba.f3 Rows.lawS6044BWholeRow.domain false) (Rows.lawS6044BWholeSpec.post enc Yba.prog Yba.f3 false true false false) := by
  refine returnsInHanded_of_change (C := Yba.checked) own started (by kernel_rfl) Yba.func3
    (ChangeSpec.witness6 (enc := enc) (C := Yba.checked) false ⟨#[], #[.slice none 0 0, .slice none 0 0], []⟩ 8 (by kernel_rfl) (by kernel_rfl) (by kernel_rfl) (by kernel_rfl)) ?_
  intro W base args ds gs before hval0 hW hcnd _
  have hval : ∀ (j : Nat) t v, Yba.f3.params[j]? = some t → args[j]? = some v → Value.okWide Yba.prog W .any base t v := hval0
  have hW' := hW
  obtain ⟨p, q, hA0, hV, rfl, hfz, hnd⟩ := hW
  have hA : DataW.TrodAll enc Yba.prog W 0 (fun _ => true) true Yba.f3.params.toList args.toList ds p := hA0
  rw [Yba.params3] at hA hval
  obtain ⟨v0, vs0, d0, ds0, p0, q0, hargs, rfl, rfl, h0, r0⟩ := trodAll_cons hA
  obtain ⟨v1, vs1, d1, ds1, p1, q1, rfl, rfl, rfl, h1, r1⟩ := trodAll_cons r0
  obtain ⟨rfl, rfl, rfl⟩ := trodAll_nil r1
  obtain rfl : args = #[v0, v1] := by cases args; simp_all
  obtain ⟨rfl, rfl⟩ := trodVars_none hV
  have k0 := h0
  have k1 := h1
  have lt0 : ∀ x ∈ p0, x.block < W.heap.size := by obtain ⟨m, hm⟩ := k0; exact DataW.trod_lt m _ _ _ hm
  have lt1 : ∀ x ∈ p1, x.block < W.heap.size := by obtain ⟨m, hm⟩ := k1; exact DataW.trod_lt m _ _ _ hm
  obtain ⟨a0, len0, cap0, rfl⟩ := okWide_slice Yba.underlying22 (hval 0 22 v0 rfl rfl)
  obtain ⟨a1, len1, cap1, rfl⟩ := okWide_slice Yba.underlying22 (hval 1 22 v1 rfl rfl)
  obtain ⟨⟨EW, hI1⟩, hm⟩ : (∃ E, In W a0 len0 E) ∧ len0 ≤ maxLen := by
    obtain ⟨fuel, hf⟩ := h0
    exact open_pcs (by simpa [Value.cells] using hf)
  obtain ⟨⟨EP, hI2⟩, hn⟩ : (∃ E, In W a1 len1 E) ∧ len1 ≤ maxLen := by
    obtain ⟨fuel, hf⟩ := h1
    exact open_pcs (by simpa [Value.cells] using hf)
  clear hA0 hval0
  refine (walk W a0 a1 len0 len1 cap0 cap1 EW EP hI1 hI2 hm hn).mono fun e W' ⟨he, bel⟩ => ?_
  subst he
  exact ⟨_, rfl, _, _, _, [], _, [], hW', trodAll_mk1 (shut_bool Yba.underlying4 _), (trodAll_cons_mk (Below.trod laidOut (by kernel_rfl) (of_decide_eq_true (by kernel_rfl)) k0 bel lt0) (trodAll_cons_mk (Below.trod laidOut (by kernel_rfl) (of_decide_eq_true (by kernel_rfl)) k1 bel lt1) trodAll_mk0)), rfl, bel.frame _, fun h => by cases h⟩

theorem over : Rows.lawS6044BWholeRow.holds Yba.pinned (OpenSpec.ofChange Rows.lawS6044BWholeSpec) :=
  OpenClaim.holds_of_wide 3 Yba.f3 rfl rfl rfl rfl rfl rfl rfl ⟨rfl, rfl, rfl, rfl, rfl⟩ rfl rfl rfl rfl rfl (by kernel_rfl) Yba.func3 (by kernel_rfl)
    (of_decide_eq_true (by kernel_rfl)) (by unfold Func.isWrapper; first | (rw [if_pos (by decide +kernel)]; kernel_rfl) | (rw [if_neg (by decide +kernel)]; exact ⟨rfl, rfl⟩))
    (fun os started H enc _ => lifted os started H enc)

/-- THE STATEMENT -/
theorem proved : Rows.LawS6044BWholeSaid := over
end Go.Proofs.Ybulkdudm.lawBW
