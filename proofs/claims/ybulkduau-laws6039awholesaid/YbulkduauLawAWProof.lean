/-
  'sim.LawS6039AWhole' returns true at every input; the arguments read as they did.
-/
import Derived.Test.YbulkduauOpenA
import Derived.Test.YbulkduauAW
namespace Go.Proofs.Ybulkduau.lawAW
open Go.ChangeShapes Go.WideShapes Go.ChangeAt Go.RowKit Go.Deep
open Extern.Stop (cell)

theorem own : ownKnob Yba.prog.godebug = none := by kernel_rfl
theorem laidOut : laidOutB Yba.prog = true := by kernel_rfl

/-- More than 2^20 items: true at once. -/
theorem big (w : World) (ao : Option Addr) (n cap : Nat) (t s : Int) (u : UInt8) (hn : 1048576 < n) (hm : n ≤ maxLen) :
    Calls Yba.prog 3 #[.slice ao n cap, .agg (pc t s u.toNat)] w fun e w1 => e = .returned (.bool true) ∧ Below w.heap.size w w1 := by
  unfold maxLen at hm
  have hi : (1048576 : Int) < (n : Int) := by omega
  go_enter Yba.func3, Yba.ntmps3
  go_wp2_with (first
    | (refine at_op (.box 25 (.tmp 1)) rfl ?_; refine wl_box rfl 25 (.tmp 1) rfl (.agg (pc t s u.toNat)) rfl w.heap.size rfl ?_; intro w1 u1))
  go_ret
  exact ⟨rfl, u1.below (Nat.le_refl _)⟩

theorem walk (w : World) (ao : Option Addr) (m cap b off : Nat) (t s : Nat → Int) (u : Nat → UInt8) (tn sn : Int) (un : UInt8)
    (hao : 0 < m → Hid (ao = some ⟨b, off, none⟩)) (hb : 0 < m → b < w.heap.size) (hit : ∀ i, i < m → w.rangeAt b (off + i * 3) (pc (t i) (s i) (u i).toNat).toList) (hm : m ≤ maxLen) :
    Calls Yba.prog 3 #[.slice ao m cap, .agg (pc tn sn un.toNat)] w fun e w1 => e = .returned (.bool true) ∧ Below w.heap.size w w1 := by
  rcases Nat.lt_or_ge 1048576 m with hn | hn
  · exact big w ao m cap tn sn un hn hm
  · exact lawAW_any w ao m cap b off _ t s u tn sn un rfl hao hb hit hn

set_option maxRecDepth 100000 in
theorem lifted (os : Os) (started : os.Started) (H : Type) (enc : TypeId × Value → H) :
    ReturnsInHanded {} Yba.checked os 3 .any (Rows.lawS6039AWholeSpec.pre6 enc Yba.prog Yba.f3 Rows.lawS6039AWholeRow.domain false) (Rows.lawS6039AWholeSpec.post enc Yba.prog Yba.f3 false true false false) := by
  refine returnsInHanded_of_change (C := Yba.checked) own started (by kernel_rfl) Yba.func3
    (ChangeSpec.witness6 (enc := enc) (C := Yba.checked) false ⟨#[], #[.slice none 0 0, .agg (pc 0 0 0)], []⟩ 8 (by kernel_rfl) (by kernel_rfl) (by kernel_rfl) (by kernel_rfl)) ?_
  intro W base args ds gs before hval0 hW hcnd _
  have hval : ∀ (j : Nat) t v, Yba.f3.params[j]? = some t → args[j]? = some v → Value.okWide Yba.prog W .any base t v := hval0
  have hW' := hW
  obtain ⟨p, q, hA0, hV, rfl, hfz, hnd⟩ := hW
  have hA : DataW.TrodAll enc Yba.prog W 0 (fun _ => true) true Yba.f3.params.toList args.toList ds p := hA0
  rw [Yba.params3] at hA hval
  obtain ⟨v0, vs0, d0, ds0, p0, q0, hargs, rfl, rfl, h0, r0⟩ := trodAll_cons hA
  obtain ⟨v1, vs1, d1, ds1, p1, q1, rfl, rfl, rfl, h1, r1⟩ := trodAll_cons r0
  obtain ⟨rfl, rfl, rfl⟩ := trodAll_nil r1
  obtain rfl : args = #[v0, v1] := by cases args; simp_all
  obtain ⟨rfl, rfl⟩ := trodVars_none hV
  have k0 := h0
  have k1 := h1
  have lt0 : ∀ x ∈ p0, x.block < W.heap.size := by obtain ⟨m, hm⟩ := k0; exact DataW.trod_lt m _ _ _ hm
  have lt1 : ∀ x ∈ p1, x.block < W.heap.size := by obtain ⟨m, hm⟩ := k1; exact DataW.trod_lt m _ _ _ hm
  obtain ⟨a0, len0, cap0, rfl⟩ := okWide_slice Yba.underlying22 (hval 0 22 v0 rfl rfl)
  obtain ⟨b, off, t, s, u, hao, hb, hit, hm⟩ : ∃ (b off : Nat) (t s : Nat → Int) (u : Nat → UInt8), (0 < len0 → Hid (a0 = some ⟨b, off, none⟩)) ∧ (0 < len0 → b < W.heap.size) ∧ (∀ i, i < len0 → W.rangeAt b (off + i * 3) (pc (t i) (s i) (u i).toNat).toList) ∧ len0 ≤ maxLen := by
    obtain ⟨fuel, hf⟩ := h0
    exact open_pcs (by simpa [Value.cells] using hf)
  obtain ⟨tn, sn, un, rfl⟩ : ∃ (tn sn : Int) (un : UInt8), v1 = .agg (pc tn sn un.toNat) := by
    have hv := hval 1 25 v1 rfl rfl
    obtain ⟨fuel, hf⟩ := h1
    simp only [Value.okWide, Yba.underlying25] at hv
    obtain ⟨cs, rfl, _⟩ := hv
    obtain ⟨tn, sn, un, hcs⟩ := open_pc hf
    refine ⟨tn, sn, un, ?_⟩
    simp only [Value.cells] at hcs
    congr 1
    exact Array.ext' hcs
  clear hA0 hval0
  refine (walk W a0 len0 cap0 b off t s u tn sn un hao hb hit hm).mono fun e W' ⟨he, bel⟩ => ?_
  subst he
  exact ⟨_, rfl, _, _, _, [], _, [], hW', trodAll_mk1 (shut_bool Yba.underlying4 _), (trodAll_cons_mk (Below.trod laidOut (by kernel_rfl) (of_decide_eq_true (by kernel_rfl)) k0 bel lt0) (trodAll_cons_mk (Below.trod laidOut (by kernel_rfl) (of_decide_eq_true (by kernel_rfl)) k1 bel lt1) trodAll_mk0)), rfl, bel.frame _, fun h => by cases h⟩

theorem over : Rows.lawS6039AWholeRow.holds Yba.pinned (OpenSpec.ofChange Rows.lawS6039AWholeSpec) :=
  OpenClaim.holds_of_wide 3 Yba.f3 rfl rfl rfl rfl rfl rfl rfl ⟨rfl, rfl, rfl, rfl, rfl⟩ rfl rfl rfl rfl rfl (by kernel_rfl) Yba.func3 (by kernel_rfl)
    (of_decide_eq_true (by kernel_rfl)) (by unfold Func.isWrapper; first | (rw [if_pos (by decide +kernel)]; kernel_rfl) | (rw [if_neg (by decide +kernel)]; exact ⟨rfl, rfl⟩))
    (fun os started H enc _ => lifted os started H enc)

/-- THE STATEMENT -/
theorem proved : Rows.LawS6039AWholeSaid := over
end Go.Proofs.Ybulkduau.lawAW
