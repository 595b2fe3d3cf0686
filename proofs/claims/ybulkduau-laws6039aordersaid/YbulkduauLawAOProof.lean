/-
  'sim.LawS6039AOrder' returns true at every input; the arguments read as they did.
-/
import Derived.Test.YbulkduauOpenA
import Derived.Test.YbulkduauAO
namespace Go.Proofs.Ybulkduau.lawAO
open Go.ChangeShapes Go.WideShapes Go.ChangeAt Go.RowKit Go.Deep
open Extern.Stop (cell)

theorem own : ownKnob Yba.prog.godebug = none := by kernel_rfl
theorem laidOut : laidOutB Yba.prog = true := by kernel_rfl

/-- More than 2^16 items: true at once. -/
theorem big (w : World) (ao : Option Addr) (n cap : Nat) (hn : 65536 < n) (hm : n ≤ maxLen) :
    Calls Yba.prog 4 #[.slice ao n cap] w fun e w1 => e = .returned (.bool true) ∧ Below w.heap.size w w1 := by
  unfold maxLen at hm
  have hi : (65536 : Int) < (n : Int) := by omega
  go_enter Yba.func4, Yba.ntmps4
  go_wp2
  go_ret
  exact ⟨rfl, Below.refl _ _⟩

theorem walk (w : World) (ao : Option Addr) (m cap b off : Nat) (t s : Nat → Int) (u : Nat → UInt8)
    (hao : 0 < m → Hid (ao = some ⟨b, off, none⟩)) (hb : 0 < m → b < w.heap.size) (hit : ∀ i, i < m → w.rangeAt b (off + i * 3) (pc (t i) (s i) (u i).toNat).toList) (hm : m ≤ maxLen) :
    Calls Yba.prog 4 #[.slice ao m cap] w fun e w1 => e = .returned (.bool true) ∧ Below w.heap.size w w1 := by
  rcases Nat.lt_or_ge 65536 m with hn | hn
  · exact big w ao m cap hn hm
  · exact lawAO_any w ao m cap b off _ t s u rfl hao hb hit hn

set_option maxRecDepth 100000 in
theorem lifted (os : Os) (started : os.Started) (H : Type) (enc : TypeId × Value → H) :
    ReturnsInHanded {} Yba.checked os 4 .any (Rows.lawS6039AOrderSpec.pre6 enc Yba.prog Yba.f4 Rows.lawS6039AOrderRow.domain false) (Rows.lawS6039AOrderSpec.post enc Yba.prog Yba.f4 false true false false) := by
  refine returnsInHanded_of_change (C := Yba.checked) own started (by kernel_rfl) Yba.func4
    (ChangeSpec.witness6 (enc := enc) (C := Yba.checked) false ⟨#[], #[.slice none 0 0], []⟩ 8 (by kernel_rfl) (by kernel_rfl) (by kernel_rfl) (by kernel_rfl)) ?_
  intro W base args ds gs before hval0 hW hcnd _
  have hval : ∀ (j : Nat) t v, Yba.f4.params[j]? = some t → args[j]? = some v → Value.okWide Yba.prog W .any base t v := hval0
  have hW' := hW
  obtain ⟨p, q, hA0, hV, rfl, hfz, hnd⟩ := hW
  have hA : DataW.TrodAll enc Yba.prog W 0 (fun _ => true) true Yba.f4.params.toList args.toList ds p := hA0
  rw [Yba.params4] at hA hval
  obtain ⟨v0, vs0, d0, ds0, p0, q0, hargs, rfl, rfl, h0, r0⟩ := trodAll_cons hA
  obtain ⟨rfl, rfl, rfl⟩ := trodAll_nil r0
  obtain rfl : args = #[v0] := by cases args; simp_all
  obtain ⟨rfl, rfl⟩ := trodVars_none hV
  have k0 := h0
  have lt0 : ∀ x ∈ p0, x.block < W.heap.size := by obtain ⟨m, hm⟩ := k0; exact DataW.trod_lt m _ _ _ hm
  obtain ⟨a0, len0, cap0, rfl⟩ := okWide_slice Yba.underlying22 (hval 0 22 v0 rfl rfl)
  obtain ⟨b, off, t, s, u, hao, hb, hit, hm⟩ : ∃ (b off : Nat) (t s : Nat → Int) (u : Nat → UInt8), (0 < len0 → Hid (a0 = some ⟨b, off, none⟩)) ∧ (0 < len0 → b < W.heap.size) ∧ (∀ i, i < len0 → W.rangeAt b (off + i * 3) (pc (t i) (s i) (u i).toNat).toList) ∧ len0 ≤ maxLen := by
    obtain ⟨fuel, hf⟩ := h0
    exact open_pcs (by simpa [Value.cells] using hf)
  clear hA0 hval0
  refine (walk W a0 len0 cap0 b off t s u hao hb hit hm).mono fun e W' ⟨he, bel⟩ => ?_
  subst he
  exact ⟨_, rfl, _, _, _, [], _, [], hW', trodAll_mk1 (shut_bool Yba.underlying4 _), (trodAll_cons_mk (Below.trod laidOut (by kernel_rfl) (of_decide_eq_true (by kernel_rfl)) k0 bel lt0) trodAll_mk0), rfl, bel.frame _, fun h => by cases h⟩

theorem over : Rows.lawS6039AOrderRow.holds Yba.pinned (OpenSpec.ofChange Rows.lawS6039AOrderSpec) :=
  OpenClaim.holds_of_wide 4 Yba.f4 rfl rfl rfl rfl rfl rfl rfl ⟨rfl, rfl, rfl, rfl, rfl⟩ rfl rfl rfl rfl rfl (by kernel_rfl) Yba.func4 (by kernel_rfl)
    (of_decide_eq_true (by kernel_rfl)) (by unfold Func.isWrapper; first | (rw [if_pos (by decide +kernel)]; kernel_rfl) | (rw [if_neg (by decide +kernel)]; exact ⟨rfl, rfl⟩))
    (fun os started H enc _ => lifted os started H enc)

/-- THE STATEMENT -/
theorem proved : Rows.LawS6039AOrderSaid := over
end Go.Proofs.Ybulkduau.lawAO
