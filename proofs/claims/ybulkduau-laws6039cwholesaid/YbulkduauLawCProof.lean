/-
  'ring.LawS6039CWhole' returns true at every input; the arguments read as they did.
-/
import Derived.Test.YbulkduauOpenC
import Derived.Test.YbulkduauC1
namespace Go.Proofs.Ybulkduau.lawC
open Go.ChangeShapes Go.WideShapes Go.ChangeAt Go.RowKit Go.Deep
open Extern.Stop (cell)

theorem own : ownKnob Yba.prog.godebug = none := by kernel_rfl
theorem laidOut : laidOutB Yba.prog = true := by kernel_rfl

set_option maxRecDepth 100000 in
/-- More than 2^20 keys: true at once. -/
theorem big (w : World) (nm : Bool) (ao av : Option Addr) (n cap nv capv : Nat) (key : List UInt8) (unc : Int) (hn : 1048576 < n) (hm : n ≤ maxLen) :
    Calls Yba.prog 6 #[.bool nm, .slice ao n cap, .slice av nv capv, .agg (kc key), .int .i64 unc] w fun e w1 => e = .returned (.bool true) ∧ Below w.heap.size w w1 := by
  unfold maxLen at hm
  have hi : (1048576 : Int) < (n : Int) := by omega
  go_enter Yba.func6, Yba.ntmps6
  go_wp2_with (first
    | (refine at_op (.box 29 (.tmp 3)) rfl ?_; refine wl_box rfl 29 (.tmp 3) rfl (.agg (kc key)) rfl w.heap.size rfl ?_; intro w1 u1))
  go_ret
  exact ⟨rfl, u1.below (Nat.le_refl _)⟩

set_option maxRecDepth 100000 in
theorem lifted (os : Os) (started : os.Started) (H : Type) (enc : TypeId × Value → H) :
    ReturnsInHanded {} Yba.checked os 6 .any (Rows.lawS6039CWholeSpec.pre6 enc Yba.prog Yba.f6 Rows.lawS6039CWholeRow.domain false) (Rows.lawS6039CWholeSpec.post enc Yba.prog Yba.f6 false true false false) := by
  refine returnsInHanded_of_change (C := Yba.checked) own started (by kernel_rfl) Yba.func6
    (ChangeSpec.witness6 (enc := enc) (C := Yba.checked) false ⟨#[], #[.bool false, .slice none 0 0, .slice none 0 0, .agg (kc (List.replicate 20 0)), .int .i64 0], []⟩ 8 (by kernel_rfl) (by kernel_rfl) (by kernel_rfl) (by kernel_rfl)) ?_
  intro W base args ds gs before hval0 hW hcnd _
  have hval : ∀ (j : Nat) t v, Yba.f6.params[j]? = some t → args[j]? = some v → Value.okWide Yba.prog W .any base t v := hval0
  have hW' := hW
  obtain ⟨p, q, hA0, hV, rfl, hfz, hnd⟩ := hW
  have hA : DataW.TrodAll enc Yba.prog W 0 (fun _ => true) true Yba.f6.params.toList args.toList ds p := hA0
  rw [Yba.params6] at hA hval
  obtain ⟨v0, vs0, d0, ds0, p0, q0, hargs, rfl, rfl, h0, r0⟩ := trodAll_cons hA
  obtain ⟨v1, vs1, d1, ds1, p1, q1, rfl, rfl, rfl, h1, r1⟩ := trodAll_cons r0
  obtain ⟨v2, vs2, d2, ds2, p2, q2, rfl, rfl, rfl, h2, r2⟩ := trodAll_cons r1
  obtain ⟨v3, vs3, d3, ds3, p3, q3, rfl, rfl, rfl, h3, r3⟩ := trodAll_cons r2
  obtain ⟨v4, vs4, d4, ds4, p4, q4, rfl, rfl, rfl, h4, r4⟩ := trodAll_cons r3
  obtain ⟨rfl, rfl, rfl⟩ := trodAll_nil r4
  obtain rfl : args = #[v0, v1, v2, v3, v4] := by cases args; simp_all
  obtain ⟨rfl, rfl⟩ := trodVars_none hV
  have k1 := h1
  have k2 := h2
  have k3 := h3
  have lt1 : ∀ x ∈ p1, x.block < W.heap.size := by obtain ⟨m, hm⟩ := k1; exact DataW.trod_lt m _ _ _ hm
  have lt2 : ∀ x ∈ p2, x.block < W.heap.size := by obtain ⟨m, hm⟩ := k2; exact DataW.trod_lt m _ _ _ hm
  have lt3 : ∀ x ∈ p3, x.block < W.heap.size := by obtain ⟨m, hm⟩ := k3; exact DataW.trod_lt m _ _ _ hm
  obtain ⟨a0, rfl, rfl, rfl⟩ := open_bool Yba.underlying4 (hval 0 4 v0 rfl rfl) h0
  obtain ⟨a1, len1, cap1, rfl⟩ := okWide_slice Yba.underlying55 (hval 1 55 v1 rfl rfl)
  obtain ⟨a2, len2, cap2, rfl⟩ := okWide_slice Yba.underlying56 (hval 2 56 v2 rfl rfl)
  obtain ⟨b, off, X, hao, hb, hX, hit, hm⟩ : ∃ (b off : Nat) (X : Nat → List UInt8), (0 < len1 → Hid (a1 = some ⟨b, off, none⟩)) ∧ (0 < len1 → b < W.heap.size) ∧ (∀ i, (X i).length = 20) ∧ (∀ i, i < len1 → W.rangeAt b (off + i * 20) (kc (X i)).toList) ∧ len1 ≤ maxLen := by
    obtain ⟨fuel, hf⟩ := h1
    exact open_keys (by simpa [Value.cells] using hf)
  obtain ⟨b2, off2, V, hav, hb2, hvs, hm2⟩ : ∃ (b off : Nat) (V : Nat → Bool), (0 < len2 → Hid (a2 = some ⟨b, off, none⟩)) ∧ (0 < len2 → b < W.heap.size) ∧ (∀ i, i < len2 → W.cell? ⟨b, off + i, none⟩ = some (.bool (V i))) ∧ len2 ≤ maxLen := by
    obtain ⟨fuel, hf⟩ := h2
    exact open_bools (by simpa [Value.cells] using hf)
  obtain ⟨key, hkey, rfl⟩ : ∃ key : List UInt8, key.length = 20 ∧ v3 = .agg (kc key) := by
    have hv := hval 3 29 v3 rfl rfl
    obtain ⟨fuel, hf⟩ := h3
    simp only [Value.okWide, Yba.underlying29] at hv
    obtain ⟨cs, rfl, _⟩ := hv
    obtain ⟨xs, hx, hcs⟩ := open_key Yba.underlying29 cells29 hf
    refine ⟨xs, hx, ?_⟩
    simp only [Value.cells] at hcs
    unfold kc
    rw [← hcs]
  obtain ⟨a4, rfl, rfl, rfl, w4⟩ := open_int Yba.underlying3 (hval 4 3 v4 rfl rfl) h4
  clear hA0 hval0
  have walk : Calls Yba.prog 6 #[.bool a0, .slice a1 len1 cap1, .slice a2 len2 cap2, .agg (kc key), .int .i64 a4] W fun e w1 => e = .returned (.bool true) ∧ Below W.heap.size W w1 := by
    rcases Nat.lt_or_ge 1048576 len1 with hn | hn
    · exact big W a0 a1 a2 len1 cap1 len2 cap2 key a4 hn hm
    · cases a0 with
      | true => exact lawC_nil W a1 a2 len1 cap1 len2 cap2 _ key a4 rfl hkey hn
      | false => exact lawC_map W a1 a2 len1 cap1 len2 cap2 b off b2 off2 _ key X V a4 rfl hkey hn hm2 hao hb hX hit hav hb2 hvs
  refine walk.mono fun e W' ⟨he, bel⟩ => ?_
  subst he
  exact ⟨_, rfl, _, _, _, [], _, [], hW', trodAll_mk1 (shut_bool Yba.underlying4 _), (trodAll_cons_mk (shut_bool Yba.underlying4 _) (trodAll_cons_mk (Below.trod laidOut (by kernel_rfl) (of_decide_eq_true (by kernel_rfl)) k1 bel lt1) (trodAll_cons_mk (Below.trod laidOut (by kernel_rfl) (of_decide_eq_true (by kernel_rfl)) k2 bel lt2) (trodAll_cons_mk (Below.trod laidOut (by kernel_rfl) (of_decide_eq_true (by kernel_rfl)) k3 bel lt3) (trodAll_cons_mk (shut_int Yba.underlying3 w4) trodAll_mk0))))), rfl, bel.frame _, fun h => by cases h⟩

theorem over : Rows.lawS6039CWholeRow.holds Yba.pinned (OpenSpec.ofChange Rows.lawS6039CWholeSpec) :=
  OpenClaim.holds_of_wide 6 Yba.f6 rfl rfl rfl rfl rfl rfl rfl ⟨rfl, rfl, rfl, rfl, rfl⟩ rfl rfl rfl rfl rfl (by kernel_rfl) Yba.func6 (by kernel_rfl)
    (of_decide_eq_true (by kernel_rfl)) (by unfold Func.isWrapper; first | (rw [if_pos (by decide +kernel)]; kernel_rfl) | (rw [if_neg (by decide +kernel)]; exact ⟨rfl, rfl⟩))
    (fun os started H enc _ => lifted os started H enc)

/-- THE STATEMENT -/
theorem proved : Rows.LawS6039CWholeSaid := over
end Go.Proofs.Ybulkduau.lawC
