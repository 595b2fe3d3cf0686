/-
  Rows in memory: own laws, whatever the element.
-/
import Derived.Test.YbulkdudmLib
import Derived.Test.YbulkdudmSplit
import Derived.Stop.BytesEq
namespace Go.Proofs.Ybulkdudm
open Go.RowKit Go.Split
open Extern.Stop (cell)

/-- The cells of an array of bytes. -/
def kc (xs : List UInt8) : Array Value := (xs.map cell).toArray
theorem kc_size (xs : List UInt8) : (kc xs).size = xs.length := by simp [kc]
theorem kc_all (xs : List UInt8) {n : Nat} (h : xs.length = n) : (kc xs).extract 0 (0 + n) = kc xs := by
  unfold kc
  apply Array.ext'
  simp
  rw [List.take_of_length_le (by simp [h])]
/-- Cells written one behind the other. -/
def putCells (C : Array Value) (o : Nat) : List Value → Array Value
  | [] => C
  | v :: r => putCells (C.setIfInBounds o v) (o + 1) r
theorem putCells_size : ∀ (vs : List Value) (C : Array Value) (o : Nat), (putCells C o vs).size = C.size
  | [], _, _ => rfl
  | v :: r, C, o => by rw [putCells, putCells_size r]; simp
theorem putCells_get : ∀ (vs : List Value) (C : Array Value) (o j : Nat), o + vs.length ≤ C.size → (putCells C o vs)[j]? = if o ≤ j ∧ j < o + vs.length then vs[j - o]? else C[j]?
  | [], C, o, j, _ => by rw [if_neg (by simp only [List.length_nil]; omega)]; rfl
  | v :: r, C, o, j, h => by
    simp only [List.length_cons] at h
    rw [putCells, putCells_get r _ (o + 1) j (by simp; omega)]
    by_cases hj : j = o
    · subst hj
      rw [if_neg (by omega), if_pos (by simp), Nat.sub_self, List.getElem?_cons_zero]
      simp [show j < C.size by omega]
    · rw [Array.getElem?_setIfInBounds_ne (fun e => hj e.symm)]
      by_cases h1 : o + 1 ≤ j ∧ j < o + 1 + r.length
      · rw [if_pos h1, if_pos (by simp; omega)]
        have : j - o = (j - (o + 1)) + 1 := by omega
        rw [this]; simp
      · rw [if_neg h1, if_neg (by simp; omega)]
theorem upd_trans_same {w w1 w2 : World} {b : Nat} {o1 o2 : Obj} (h1 : Upd w w1 b o1) (h2 : Upd w1 w2 b o2) : Upd w w2 b o2 :=
  ⟨h2.os.trans h1.os, h2.tape.trans h1.tape, h2.output.trans h1.output, by have := h1.size; have := h2.size; omega, h2.here, fun k hk => (h2.other k hk).trans (h1.other k hk)⟩
theorem upd_same {w : World} {b : Nat} {o : Obj} (h : w.heap[b]? = some o) : Upd w w b o := ⟨rfl, rfl, rfl, by have := lt_of_heap h; omega, h, fun _ _ => rfl⟩
theorem upd_setCells (b : Nat) (t : TypeId) (fr : Nat × Nat) : ∀ (vs : List Value) (w : World) (C : Array Value) (o : Nat), w.heap[b]? = some (.cells C t fr) → Upd w (w.setCells b o vs) b (.cells (putCells C o vs) t fr)
  | [], w, C, o, h => upd_same h
  | v :: r, w, C, o, h => by
    have u1 := upd_setCell w b o C t fr v h
    exact upd_trans_same u1 (upd_setCells b t fr r _ _ (o + 1) u1.here)

section
variable {P : Program} {ops : Array Oper} {rest : List Oper} {op : Oper} {a : Act} {w : World} {Q : Exit → Act → World → Prop}
/-- Several cells at once are stored into the middle of a block that is known whole. -/
theorem wl_store_mid (hgd : op.guard = none) (ty : TypeId) (x y : Operand) (ho : op.op = .store ty x y) (b o : Nat) (cells C : Array Value) (t : TypeId) (hx : a.eval x = .pointer (some ⟨b, o, none⟩)) (hy : a.eval y = .agg cells)
    (hb : w.heap[b]? = some (.cells C t (0, 0))) (hle : o + cells.size ≤ C.size) (hi : (P.info? ty).map (·.size) = some cells.size) (h1 : cells.all (·.oneCell') = true) (D : Array Value) (hD : putCells C o cells.toList = D)
    (h : ∀ w1, Upd w w1 b (.cells D t (0, 0)) → wpList P ops Q rest (a.put op.dst undef) w1) : wpList P ops Q (op :: rest) a w := by
  have ht : w.there b o cells.size := fun j hj => ⟨by rw [cell_of_row w b (o + j) C t (0, 0) hb]; simp; omega, frozen_of_row w b _ C t hb⟩
  subst hD
  exact wpList_store_mid hgd ty x y ho b o cells hx hy ht hi h1 (h _ (upd_setCells b t (0, 0) cells.toList w C o hb))
end
theorem take_set_snoc {α : Type} {l : List α} {n : Nat} (e : α) (h : n < l.length) : (l.set n e).take (n + 1) = l.take n ++ [e] := by
  rw [List.take_succ_eq_append_getElem (by simpa using h)]
  simp [List.take_set_of_le]
theorem news_of {w : World} {B : Nat} {cs : Array Value} {t : TypeId} {fr : Nat × Nat} (hb : w.heap[B]? = some (.cells cs t fr)) : ∀ j u, cs.toList[j]? = some u → w.cell? ((⟨B, 0, none⟩ : Addr).add j) = some u := fun j u hu => by
  rw [Addr.add_mid, cell_of_row w B (0 + j) cs t fr hb, Nat.zero_add]
  simpa using hu
end Go.Proofs.Ybulkdudm
