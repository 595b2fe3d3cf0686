/-
  'risoku.LawS6042BWhole' returns true at every input; the arguments read as they did.
-/
import Derived.Test.YbulkduckWalk3
import Derived.ProofKit
import Derived.OpenShut
namespace Go.Proofs.Ybulkduck.lawS6042BWhole
open Go.ChangeShapes Go.WideShapes Go.ChangeAt Go.RowKit

theorem own : ownKnob Yba.prog.godebug = none := by kernel_rfl

theorem rest (hi lo bv : Int) (ub : Bool) (h0 : 0 ≤ lo) (h1 : lo ≤ 18446744073709551615) (w : World) :
    Calls Yba.prog 3 #[.int .u64 hi, .int .u64 lo, .bool ub, .bool false, .int .u64 bv] w fun e w1 => e = .returned (.bool true) ∧ Below w.heap.size w w1 := by
  cases ub with
  | true => exact big_p w hi lo bv
  | false =>
    by_cases hh : hi = 0
    · by_cases ht : 9223372036854775807 < lo
      · exact top_p w hi lo bv (by simp [hh]) (by simp [hh]) (show decide (9223372036854775807 < lo) = true by simpa using ht) (show (lo / 9223372036854775808 == 0) = false by rw [beq_eq_false_iff_ne]; omega)
      · exact fit_p w hi lo bv (by simp [hh]) (by simp [hh]) h0 (show lo ≤ 9223372036854775807 by omega) (show (lo / 9223372036854775808 == 0) = true by rw [beq_iff_eq]; omega)
    · exact hi_p w hi lo bv (by simp [hh]) (by simp [hh])
theorem rest_e (hi lo0 bv : Int) (ub : Bool) (w : World) :
    Calls Yba.prog 3 #[.int .u64 hi, .int .u64 lo0, .bool ub, .bool true, .int .u64 bv] w fun e w1 => e = .returned (.bool true) ∧ Below w.heap.size w w1 := by
  obtain ⟨lo, hlo⟩ : ∃ lo, lo = IntKind.u64.wrap (lo0 + 9223372036854775806) := ⟨_, rfl⟩
  have hbd : 0 ≤ lo ∧ lo ≤ 18446744073709551615 := by rw [hlo]; exact wrap_u64_bd _
  have hadd : Hid (∀ w, (binOp .add 22 (.int .u64 lo0) (.int .u64 9223372036854775806)).run Yba.prog w = .ok (.int .u64 lo) w) := by
    intro w; rw [hlo]; exact add_run lo0 w
  cases ub with
  | true => exact big_e w hi lo bv lo0 hadd
  | false =>
    by_cases hh : hi = 0
    · by_cases ht : 9223372036854775807 < lo
      · exact top_e w hi lo bv lo0 hadd (by simp [hh]) (by simp [hh]) (show decide (9223372036854775807 < lo) = true by simpa using ht) (show (lo / 9223372036854775808 == 0) = false by rw [beq_eq_false_iff_ne]; omega)
      · exact fit_e w hi lo bv lo0 hadd (by simp [hh]) (by simp [hh]) hbd.1 (show lo ≤ 9223372036854775807 by omega) (show (lo / 9223372036854775808 == 0) = true by rw [beq_iff_eq]; omega)
    · exact hi_e w hi lo bv lo0 hadd (by simp [hh]) (by simp [hh])

set_option maxRecDepth 100000 in
theorem lifted (os : Os) (started : os.Started) (H : Type) (enc : TypeId × Value → H) :
    ReturnsInHanded {} Yba.checked os 3 .any (Rows.lawS6042BWholeSpec.pre6 enc Yba.prog Yba.f3 Rows.lawS6042BWholeRow.domain false) (Rows.lawS6042BWholeSpec.post enc Yba.prog Yba.f3 false true false false) := by
  refine returnsInHanded_of_change (C := Yba.checked) own started (by kernel_rfl) Yba.func3
    (ChangeSpec.witness6 (enc := enc) (C := Yba.checked) false ⟨#[], #[.int .u64 0, .int .u64 0, .bool false, .bool false, .int .u64 0], []⟩ 8 (by kernel_rfl) (by kernel_rfl) (by kernel_rfl) (by kernel_rfl)) ?_
  intro W base args ds gs before hval0 hW hcnd _
  have hval : ∀ (j : Nat) t v, Yba.f3.params[j]? = some t → args[j]? = some v → Value.okWide Yba.prog W .any base t v := hval0
  have hW' := hW
  obtain ⟨p, q, hA0, hV, rfl, hfz, hnd⟩ := hW
  have hA : DataW.TrodAll enc Yba.prog W 0 (fun _ => true) true Yba.f3.params.toList args.toList ds p := hA0
  rw [Yba.params3] at hA hval
  obtain ⟨v0, vs0, d0, ds0, p0, q0, hargs, rfl, rfl, h0, r0⟩ := trodAll_cons hA
  obtain ⟨v1, vs1, d1, ds1, p1, q1, rfl, rfl, rfl, h1, r1⟩ := trodAll_cons r0
  obtain ⟨v2, vs2, d2, ds2, p2, q2, rfl, rfl, rfl, h2, r2⟩ := trodAll_cons r1
  obtain ⟨v3, vs3, d3, ds3, p3, q3, rfl, rfl, rfl, h3, r3⟩ := trodAll_cons r2
  obtain ⟨v4, vs4, d4, ds4, p4, q4, rfl, rfl, rfl, h4, r4⟩ := trodAll_cons r3
  obtain ⟨rfl, rfl, rfl⟩ := trodAll_nil r4
  obtain rfl : args = #[v0, v1, v2, v3, v4] := by cases args; simp_all
  obtain ⟨rfl, rfl⟩ := trodVars_none hV
  obtain ⟨a0, rfl, rfl, rfl, w0⟩ := open_int Yba.underlying22 (hval 0 22 v0 rfl rfl) h0
  obtain ⟨a1, rfl, rfl, rfl, w1⟩ := open_int Yba.underlying22 (hval 1 22 v1 rfl rfl) h1
  obtain ⟨a2, rfl, rfl, rfl⟩ := open_bool Yba.underlying4 (hval 2 4 v2 rfl rfl) h2
  obtain ⟨a3, rfl, rfl, rfl⟩ := open_bool Yba.underlying4 (hval 3 4 v3 rfl rfl) h3
  obtain ⟨a4, rfl, rfl, rfl, w4⟩ := open_int Yba.underlying22 (hval 4 22 v4 rfl rfl) h4
  clear hA0 hval0
  have bd := bounds_u64 w1
  have walk : Calls Yba.prog 3 #[.int .u64 a0, .int .u64 a1, .bool a2, .bool a3, .int .u64 a4] W fun e w1 => e = .returned (.bool true) ∧ Below W.heap.size W w1 := by
    cases a3 with
    | false => exact rest a0 a1 a4 a2 bd.1 (by omega) W
    | true => exact rest_e a0 a1 a4 a2 W
  refine walk.mono fun e W' ⟨he, bel⟩ => ?_
  subst he
  exact ⟨_, rfl, _, _, _, [], _, [], hW', trodAll_mk1 (shut_bool Yba.underlying4 _), (trodAll_cons_mk (shut_int Yba.underlying22 w0) (trodAll_cons_mk (shut_int Yba.underlying22 w1) (trodAll_cons_mk (shut_bool Yba.underlying4 _) (trodAll_cons_mk (shut_bool Yba.underlying4 _) (trodAll_cons_mk (shut_int Yba.underlying22 w4) trodAll_mk0))))), rfl, bel.frame _, fun h => by cases h⟩

theorem over : Rows.lawS6042BWholeRow.holds Yba.pinned (OpenSpec.ofChange Rows.lawS6042BWholeSpec) :=
  OpenClaim.holds_of_wide 3 Yba.f3 rfl rfl rfl rfl rfl rfl rfl ⟨rfl, rfl, rfl, rfl, rfl⟩ rfl rfl rfl rfl rfl (by kernel_rfl) Yba.func3 (by kernel_rfl)
    (of_decide_eq_true (by kernel_rfl)) (by unfold Func.isWrapper; first | (rw [if_pos (by decide +kernel)]; kernel_rfl) | (rw [if_neg (by decide +kernel)]; exact ⟨rfl, rfl⟩))
    (fun os started H enc _ => lifted os started H enc)

/-- THE STATEMENT -/
theorem proved : Rows.LawS6042BWholeSaid := over
end Go.Proofs.Ybulkduck.lawS6042BWhole
