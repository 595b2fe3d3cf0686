/-
  'ring.LawS6039BWhole' returns true at every input; the arguments read as they did.
-/
import Derived.Test.YbulkduauOpen
namespace Go.Proofs.Ybulkduau.lawB
open Go.ChangeShapes Go.WideShapes Go.ChangeAt Go.RowKit Go.Deep
open Extern.Stop (cell)

theorem own : ownKnob Yba.prog.godebug = none := by kernel_rfl
theorem laidOut : laidOutB Yba.prog = true := by kernel_rfl

/-- More than 2^20 items: true at once. -/
theorem big (w : World) (ao : Option Addr) (n cap : Nat) (key : List UInt8) (ee pp : Int) (hn : 1048576 < n) (hm : n ≤ maxLen) :
    Calls Yba.prog 5 #[.slice ao n cap, .agg (kc key), .int .i64 ee, .int .i64 pp] w fun e w1 => e = .returned (.bool true) ∧ Below w.heap.size w w1 := by
  unfold maxLen at hm
  have hi : (1048576 : Int) < (n : Int) := by omega
  go_enter Yba.func5, Yba.ntmps5
  go_wp2_with (first
    | (refine at_op (.box 29 (.tmp 1)) rfl ?_; refine wl_box rfl 29 (.tmp 1) rfl (.agg (kc key)) rfl w.heap.size rfl ?_; intro w1 u1))
  go_ret
  exact ⟨rfl, u1.below (Nat.le_refl _)⟩

theorem walk (w : World) (ao : Option Addr) (n cap b off : Nat) (key : List UInt8) (X : Nat → List UInt8) (e p : Nat → Int) (ee pp : Int) (hkey : key.length = 20)
    (hao : 0 < n → Hid (ao = some ⟨b, off, none⟩)) (hb : 0 < n → b < w.heap.size) (hX : ∀ i, (X i).length = 20) (hit : ∀ i, i < n → w.rangeAt b (off + i * 22) (ic (X i) (e i) (p i)).toList) (hm : n ≤ maxLen) :
    Calls Yba.prog 5 #[.slice ao n cap, .agg (kc key), .int .i64 ee, .int .i64 pp] w fun e w1 => e = .returned (.bool true) ∧ Below w.heap.size w w1 := by
  rcases Nat.lt_or_ge 1048576 n with hn | hn
  · exact big w ao n cap key ee pp hn hm
  · exact lawB_any w ao n cap b off _ key X e p ee pp rfl hkey hao hb hX hit hn

set_option maxRecDepth 100000 in
theorem lifted (os : Os) (started : os.Started) (H : Type) (enc : TypeId × Value → H) :
    ReturnsInHanded {} Yba.checked os 5 .any (Rows.lawS6039BWholeSpec.pre6 enc Yba.prog Yba.f5 Rows.lawS6039BWholeRow.domain false) (Rows.lawS6039BWholeSpec.post enc Yba.prog Yba.f5 false true false false) := by
  refine returnsInHanded_of_change (C := Yba.checked) own started (by kernel_rfl) Yba.func5
    (ChangeSpec.witness6 (enc := enc) (C := Yba.checked) false ⟨#[], #[.slice none 0 0, .agg (kc (List.replicate 20 0)), .int .i64 0, .int .i64 0], []⟩ 8 (by kernel_rfl) (by kernel_rfl) (by kernel_rfl) (by kernel_rfl)) ?_
  intro W base args ds gs before hval0 hW hcnd _
  have hval : ∀ (j : Nat) t v, Yba.f5.params[j]? = some t → args[j]? = some v → Value.okWide Yba.prog W .any base t v := hval0
  have hW' := hW
  obtain ⟨p, q, hA0, hV, rfl, hfz, hnd⟩ := hW
  have hA : DataW.TrodAll enc Yba.prog W 0 (fun _ => true) true Yba.f5.params.toList args.toList ds p := hA0
  rw [Yba.params5] at hA hval
  obtain ⟨v0, vs0, d0, ds0, p0, q0, hargs, rfl, rfl, h0, r0⟩ := trodAll_cons hA
  obtain ⟨v1, vs1, d1, ds1, p1, q1, rfl, rfl, rfl, h1, r1⟩ := trodAll_cons r0
  obtain ⟨v2, vs2, d2, ds2, p2, q2, rfl, rfl, rfl, h2, r2⟩ := trodAll_cons r1
  obtain ⟨v3, vs3, d3, ds3, p3, q3, rfl, rfl, rfl, h3, r3⟩ := trodAll_cons r2
  obtain ⟨rfl, rfl, rfl⟩ := trodAll_nil r3
  obtain rfl : args = #[v0, v1, v2, v3] := by cases args; simp_all
  obtain ⟨rfl, rfl⟩ := trodVars_none hV
  have k0 := h0
  have k1 := h1
  have lt0 : ∀ x ∈ p0, x.block < W.heap.size := by obtain ⟨m, hm⟩ := k0; exact DataW.trod_lt m _ _ _ hm
  have lt1 : ∀ x ∈ p1, x.block < W.heap.size := by obtain ⟨m, hm⟩ := k1; exact DataW.trod_lt m _ _ _ hm
  obtain ⟨a0, len0, cap0, rfl⟩ := okWide_slice Yba.underlying44 (hval 0 44 v0 rfl rfl)
  obtain ⟨b, off, X, e, p', hao, hb, hX, hit, hm⟩ : ∃ (b off : Nat) (X : Nat → List UInt8) (e p : Nat → Int), (0 < len0 → Hid (a0 = some ⟨b, off, none⟩)) ∧ (0 < len0 → b < W.heap.size) ∧ (∀ i, (X i).length = 20) ∧ (∀ i, i < len0 → W.rangeAt b (off + i * 22) (ic (X i) (e i) (p i)).toList) ∧ len0 ≤ maxLen := by
    obtain ⟨fuel, hf⟩ := h0
    obtain ⟨b, off, X, e, p', hao, hb, hX, hit⟩ := open_items (by simpa [Value.cells] using hf)
    refine ⟨b, off, X, e, p', hao, hb, hX, hit, ?_⟩
    rcases open_slice Yba.underlying44 hf with ⟨hcs, _⟩ | ⟨a, len', cap', m, n, D, Pl, hcs, _, hlc, hmx, _⟩
    · simp [Value.cells] at hcs; omega
    · simp [Value.cells] at hcs; omega
  obtain ⟨key, hkey, rfl⟩ : ∃ key : List UInt8, key.length = 20 ∧ v1 = .agg (kc key) := by
    have hv := hval 1 29 v1 rfl rfl
    obtain ⟨fuel, hf⟩ := h1
    simp only [Value.okWide, Yba.underlying29] at hv
    obtain ⟨cs, rfl, _⟩ := hv
    obtain ⟨xs, hx, hcs⟩ := open_key Yba.underlying29 cells29 hf
    refine ⟨xs, hx, ?_⟩
    simp only [Value.cells] at hcs
    unfold kc
    rw [← hcs]
  obtain ⟨a2, rfl, rfl, rfl, w2⟩ := open_int Yba.underlying2 (hval 2 2 v2 rfl rfl) h2
  obtain ⟨a3, rfl, rfl, rfl, w3⟩ := open_int Yba.underlying3 (hval 3 3 v3 rfl rfl) h3
  clear hA0 hval0
  refine (walk W a0 len0 cap0 b off key X e p' a2 a3 hkey hao hb hX hit hm).mono fun e W' ⟨he, bel⟩ => ?_
  subst he
  exact ⟨_, rfl, _, _, _, [], _, [], hW', trodAll_mk1 (shut_bool Yba.underlying4 _), (trodAll_cons_mk (Below.trod laidOut (by kernel_rfl) (of_decide_eq_true (by kernel_rfl)) k0 bel lt0) (trodAll_cons_mk (Below.trod laidOut (by kernel_rfl) (of_decide_eq_true (by kernel_rfl)) k1 bel lt1) (trodAll_cons_mk (shut_int Yba.underlying2 w2) (trodAll_cons_mk (shut_int Yba.underlying3 w3) trodAll_mk0)))), rfl, bel.frame _, fun h => by cases h⟩

theorem over : Rows.lawS6039BWholeRow.holds Yba.pinned (OpenSpec.ofChange Rows.lawS6039BWholeSpec) :=
  OpenClaim.holds_of_wide 5 Yba.f5 rfl rfl rfl rfl rfl rfl rfl ⟨rfl, rfl, rfl, rfl, rfl⟩ rfl rfl rfl rfl rfl (by kernel_rfl) Yba.func5 (by kernel_rfl)
    (of_decide_eq_true (by kernel_rfl)) (by unfold Func.isWrapper; first | (rw [if_pos (by decide +kernel)]; kernel_rfl) | (rw [if_neg (by decide +kernel)]; exact ⟨rfl, rfl⟩))
    (fun os started H enc _ => lifted os started H enc)

/-- THE STATEMENT -/
theorem proved : Rows.LawS6039BWholeSaid := over
end Go.Proofs.Ybulkduau.lawB
