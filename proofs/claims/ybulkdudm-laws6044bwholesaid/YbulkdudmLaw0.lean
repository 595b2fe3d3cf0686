/-
  'overlay.LawS6044BWhole': parts.
-/
import Derived.Test.YbulkdudmChange
import Derived.Test.YbulkdudmEq
namespace Go.Proofs.Ybulkdudm
open Go.RowKit Go.Split
open Extern.Stop (cell)

/-- A slice of drawn peers, as it came in. -/
structure In (w : World) (ao : Option Addr) (n : Nat) (E : Nat → Pe.Ev) : Prop where
  ex : ∃ (b off : Nat) (u : Nat → UInt8) (s : Nat → ByteArray) (st : Nat → Int), (∀ i, E i = ⟨idOf (u i), s i, st i⟩) ∧ (0 < n → Hid (ao = some ⟨b, off, none⟩)) ∧ (0 < n → b < w.heap.size) ∧ ∀ i, i < n → Src w b (off + i * 3) (u i) (s i) (st i)
theorem In.ok {w : World} {ao : Option Addr} {n : Nat} {E : Nat → Pe.Ev} (h : In w ao n E) : ∀ i, (E i).id.length = 16 := by
  obtain ⟨b, off, u, s, st, hE, _⟩ := h.ex
  intro i
  rw [hE i]; exact idOf_length _
theorem In.later {w w1 : World} {ao : Option Addr} {n : Nat} {E : Nat → Pe.Ev} (h : In w ao n E) (bl : Below w.heap.size w w1) : In w1 ao n E := by
  obtain ⟨b, off, u, s, st, hE, ha, hb, hs⟩ := h.ex
  exact ⟨b, off, u, s, st, hE, ha, fun hn => Nat.lt_of_lt_of_le (hb hn) bl.size, fun i hi => (hs i hi).later (hb (by omega)) bl⟩
structure PeersPost (w : World) (r : Ending) (w1 : World) (ao : Option Addr) (n N : Nat) (E : Nat → Pe.Ev) : Prop where
  out : ∃ av : Option Addr, r = .returned (.slice av n n) ∧ PRow w1 av n N E ∧ av.isNone = ao.isNone ∧ Below N w w1
theorem peers_any (w : World) (ao : Option Addr) (n cap N : Nat) (E : Nat → Pe.Ev) (h : In w ao n E) (hN : w.heap.size = N) (hn : n ≤ 512) :
    Calls Yba.prog 4 #[.slice ao n cap] w fun r w1 => PeersPost w r w1 ao n N E := by
  have hok := h.ok
  obtain ⟨b, off, u, s, st, hE, ha, hb, hs⟩ := h.ex
  cases ao with
  | none =>
    obtain rfl : n = 0 := by
      rcases Nat.eq_zero_or_pos n with h0 | h0
      · exact h0
      · exact absurd (ha h0).out (by simp)
    refine (peers_nil w 0 cap).mono ?_
    rintro _ w1 ⟨rfl, rfl⟩
    exact ⟨none, rfl, ⟨hok, by omega, by omega, by omega⟩, rfl, Below.refl _ _⟩
  | some ad =>
    refine (peers_some w ad n cap b off N u s st E hE hN (fun h0 => Option.some.inj (ha h0).out) (fun h0 => hN ▸ hb h0) hs hn).mono ?_
    rintro _ w1 ⟨rfl, I⟩
    exact ⟨some ⟨N, 0, none⟩, rfl, ⟨hok, hn, fun _ => rfl, fun _ => I.row⟩, rfl, I.below⟩

/-- The marks: W's x-th is met, x < i. -/
def uarr (W P : Nat → Key) (n m i : Nat) : Array Value := ((List.range m).map fun x => Value.bool (decide (x < i) && met W P n x)).toArray
section
variable {W P : Nat → Key} {n m i : Nat}
theorem uarr_size : (uarr W P n m i).size = m := by simp [uarr]
theorem uarr_zero : madeCells (Value.bool false).cells (m * 1) = uarr W P n m 0 := by
  apply Array.ext_getElem?
  intro j
  by_cases hj : j < m
  · simp [madeCells, uarr, hj, Value.cells, Nat.mod_one]
  · rw [Array.getElem?_eq_none (by simp [size_madeCells]; omega), Array.getElem?_eq_none (by rw [uarr_size]; omega)]
theorem uarr_get {x : Nat} (hx : x < m) : (uarr W P n m i)[x]? = some (.bool (decide (x < i) && met W P n x)) := by simp [uarr, hx]
theorem uarr_skip (h : met W P n i = false) : uarr W P n m (i + 1) = uarr W P n m i := by
  apply Array.ext_getElem?
  intro j
  by_cases hj : j < m
  · rw [uarr_get hj, uarr_get hj]
    by_cases hi : j = i
    · subst hi; simp [h]
    · have : (j < i + 1) = (j < i) := by apply propext; omega
      simp [this]
  · rw [Array.getElem?_eq_none (by rw [uarr_size]; omega), Array.getElem?_eq_none (by rw [uarr_size]; omega)]
theorem uarr_take (h : met W P n i = true) : (uarr W P n m i).setIfInBounds i (.bool true) = uarr W P n m (i + 1) := by
  apply Array.ext_getElem?
  intro j
  by_cases hj : j < m
  · rw [uarr_get hj]
    by_cases hi : i = j
    · subst hi
      simp [uarr_size, hj, h]
    · rw [Array.getElem?_setIfInBounds_ne hi, uarr_get hj]
      have : (j < i + 1) = (j < i) := by apply propext; omega
      simp [this]
  · rw [Array.getElem?_eq_none (by simp [uarr_size]; omega), Array.getElem?_eq_none (by rw [uarr_size]; omega)]
theorem uarr_end (h : kept W P n i = kept W P n m) : uarr W P n m i = uarr W P n m m := by
  apply Array.ext_getElem?
  intro j
  by_cases hj : j < m
  · rw [uarr_get hj, uarr_get hj]
    by_cases h1 : j < i
    · simp [h1, hj]
    · simp [met_behind h (by omega : i ≤ j) hj]
  · rw [Array.getElem?_eq_none (by rw [uarr_size]; omega), Array.getElem?_eq_none (by rw [uarr_size]; omega)]
end

theorem IdRow.at_ {w : World} {av : Option Addr} {n cap g : Nat} {L l : List Key} (h : IdRow w av n cap g L l) (hn : 0 < n) : av = some ⟨g, 0, none⟩ ∧ w.heap[g]? = some (.cells (Id.ecs L) 28 (0, 0)) := by
  rcases h.row.val with ⟨_, h0, _⟩ | ⟨h1, h2⟩
  · omega
  · cases h1; exact ⟨rfl, h2⟩
theorem ld_key {w : World} {av : Option Addr} {n cap g x : Nat} {L l : List Key} (h : IdRow w av n cap g L l) (hx : x < n) : (Instr.loadAt 28 (.pointer (some ⟨g, 0 + x * 16, none⟩))).run Yba.prog w = .ok (.agg (kc (l.getD x Id.z0))) w := by
  have hat := h.at_ (by omega)
  have hlen := h.row.len
  have hle := h.row.le
  have hg : L.getD x Id.z0 = l.getD x Id.z0 := by rw [← h.take]; simp [List.getD, List.getElem?_take_of_lt hx]
  have h2 : w.rangeAt g (0 + x * 16) (kc (l.getD x Id.z0)).toList := by
    have := World.rangeAt_of_block hat.2 (0 + x * 16) 16
    rw [Id.ecs_extract h.row.ok (by omega), hg] at this
    exact this
  have hl : (l.getD x Id.z0).length = 16 := by rw [← hg]; exact h.row.ok.getD x
  have := run_loadAt_mid (P := Yba.prog) w g (0 + x * 16) 28 (kc (l.getD x Id.z0)).toList _ h2 Yba.underlying28 rfl (by rw [Id.size28, Array.length_toList, kc_size, hl])
  simpa using this
theorem neqPtr (a : Addr) (w : World) : (binOp .neq 35 (.pointer (some a)) (.pointer (some a))).run Yba.prog w = .ok (.bool false) w := by
  have e1 : (binOp .neq 35 (.pointer (some a)) (.pointer (some a))) = (do return .bool (!(← Op.equal 35 (.pointer (some a)) (.pointer (some a))))) := rfl
  have hu : Yba.prog.underlying 35 = some (.pointer 31) := by kernel_rfl
  obtain ⟨inf, hinf, _⟩ := Option.map_eq_some_iff.1 Pe.size31
  have hq : ∀ d, (Op.equalIn (d + 1) 35 (.pointer (some a)) (.pointer (some a))).run Yba.prog w = .ok true w := by
    intro d
    rw [Op.equalIn]
    simp [run_underlying hu, sizeOf, typeInfo, hinf, sameAddr, Result.andThen]
  rw [e1]
  simp only [Sem.run_bind, Op.equal, Op.maxDepth, hq 9999, Result.andThen_ok]
  rfl
theorem gdPtr (x y : Operand) (a b : Addr) (w : World) : (eqGuard .neq 35 x y (.pointer (some a)) (.pointer (some b))).run Yba.prog w = .ok () w := by
  simp [eqGuard]
theorem size4 : (Yba.prog.info? 4).map (·.size) = some 1 := by kernel_rfl
theorem info4 : (Yba.prog.info? 4).map (fun i => (i.zero, i.size, i.bytes)) = some (some (.bool false), 1, 1) := by kernel_rfl
end Go.Proofs.Ybulkdudm
