/-
  '(*Node).noteChanged': what it leaves.
-/
import Derived.Test.YbulkduauMap
namespace Go.Proofs.Ybulkduau
open Go.RowKit Go.Split
open Extern.Stop (cell)
theorem size57 : (Yba.prog.info? 57).map (·.size) = some 1 := by kernel_rfl
theorem mixed : Yba.prog.follows .mixedOrders = true := by kernel_rfl

theorem ld_kc30 {w : World} {b : Nat} {xs : List UInt8} {t : TypeId} (hb : w.heap[b]? = some (.cells (kc xs) t (0, 0))) (h : xs.length = 20) :
    (Instr.loadAt 30 (.pointer (some ⟨b, 0, none⟩))).run Yba.prog w = .ok (.agg (kc xs)) w := by
  have h2 : w.rangeAt b 0 (kc xs).toList := by
    have := World.rangeAt_of_block hb 0 20
    rwa [kc_all _ h] at this
  have := run_loadAt_mid (P := Yba.prog) w b 0 30 (kc xs).toList _ h2 Yba.underlying30 rfl (by rw [size30]; simp [kc_size, h])
  simpa using this

/-- Where the map was there: that very map has the key. -/
structure Noted1 (w w1 : World) (N r c : Nat) (key : List UInt8) (es : List (List UInt8 × Bool × Nat)) : Prop where
  size : w1.heap.size = N + 1
  atR : w1.heap[r]? = some (mobj (mset key true c es) (mclock key c es))
  other : ∀ k, k < N → k ≠ r → w1.heap[k]? = w.heap[k]?
  os : w1.os = w.os
  tape : w1.tape = w.tape
  output : w1.output = w.output

set_option maxRecDepth 100000 in
set_option maxHeartbeats 1000000 in
theorem note_there (w : World) (Nd T r c N : Nat) (key : List UInt8) (hkey : key.length = 20) (C : Array Value) (es : List (List UInt8 × Bool × Nat)) (hes : keysOk es) (hN : w.heap.size = N)
    (hT : w.heap[T]? = some (.cells C 94 (0, 0))) (hC : C[129]? = some (.map (some r))) (hr : w.heap[r]? = some (mobj es c)) :
    Calls Yba.prog 13 #[.pointer (some ⟨Nd, 0, none⟩), .pointer (some ⟨T, 0, none⟩), .agg (kc key)] w fun e w1 => e = .returned (.tuple #[]) ∧ Noted1 w w1 N r c key es := by
  have lT : T < N := hN ▸ lt_of_heap hT
  have lr : r < N := hN ▸ lt_of_heap hr
  have hmn : ∀ (w : World) (r : Option Nat), (binOp .eql 57 (.map r) (.map none)).run Yba.prog w = .ok (.bool r.isNone) w := fun w r => run_eql_map_nil w _ _ _ r Yba.underlying57
  go_enter Yba.func13, Yba.ntmps13
  go_wp2_with (first
    | (refine at_op (.box 30 (.tmp 2)) rfl ?_; refine wl_box rfl 30 (.tmp 2) rfl (.agg (kc key)) rfl N hN ?_; intro w1 u1)
    | (refine at_op (.load 57 (.tmp 9)) rfl ?_; refine wl_load1 rfl 57 (.tmp 9) rfl T 129 C 94 (0, 0) (.map (some r)) rfl (by exact u1.keep (by omega) hT) hC _ Yba.underlying57 rfl ?_))
  refine wp_region_cut mixed [0, 1, 2, 3, 4, 5] 6 [] (by kernel_rfl) (by kernel_rfl) (fun c a d v w h => by cases d <;> exact h) ?_
  simp only [List.filterMap_cons, List.filterMap_nil, List.getElem?_toArray, List.getElem?_cons_zero, List.getElem?_cons_succ]
  refine (show wpQuiet _ _ _ _ [_, _, _, _, _, _] _ from ?_)
  have hcT : w1.drew.cell? ⟨T, 129, none⟩ = some (.map (some r)) := (cell_of_row w1 T 129 _ _ _ (u1.keep (by omega) hT)).trans hC
  have hk1 : (Instr.loadAt 30 (.pointer (some ⟨N, 0, none⟩))).run Yba.prog w1.drew = .ok (.agg (kc key)) w1.drew := ld_kc30 (w := w1.drew) u1.here hkey
  repeat (first
    | go_big_quiet_step (fail)
    | (refine ws_load 30 (.tmp 5) rfl rfl (.pointer (some ⟨N, 0, none⟩)) (.agg (kc key)) rfl hk1 ?_; simp only [Act.put, List.setIfInBounds_toArray, List.set_cons_zero, List.set_cons_succ]))
  refine wpQuiet_nil (show wpList _ _ _ [_] _ _ from ?_)
  refine wl_mapUpdate rfl (.tmp 21) (.tmp 22) (.const (.bool true)) rfl r key hkey true rfl rfl rfl c es hes (by exact (u1.keep (by omega) hr)) ?_
  intro w2 u2
  go_wp2
  go_end0
  refine ⟨rfl, ?_, u2.here, ?_, ?_, ?_, ?_⟩
  · have := u2.size; have := u1.size; have : w1.drew.heap.size = w1.heap.size := rfl; omega
  · intro k hk hkr
    rw [u2.other k hkr]
    exact u1.other k (by omega)
  · exact u2.os.trans u1.os
  · exact u2.tape.trans u1.tape
  · exact u2.output.trans u1.output

/-- Where it was nil: a new map. -/
structure Noted0 (w w1 : World) (T N : Nat) (key : List UInt8) (C : Array Value) : Prop where
  size : w1.heap.size = N + 2
  atT : w1.heap[T]? = some (.cells (C.setIfInBounds 129 (.map (some (N + 1)))) 94 (0, 0))
  atM : w1.heap[N + 1]? = some (mobj (mset key true 0 []) 1)
  other : ∀ k, k < N → k ≠ T → w1.heap[k]? = w.heap[k]?
  os : w1.os = w.os
  tape : w1.tape = w.tape
  output : w1.output = w.output

set_option maxRecDepth 100000 in
set_option maxHeartbeats 1000000 in
theorem note_nil (w : World) (Nd T N : Nat) (key : List UInt8) (hkey : key.length = 20) (C : Array Value) (hN : w.heap.size = N)
    (hT : w.heap[T]? = some (.cells C 94 (0, 0))) (hC : C[129]? = some (.map .none)) :
    Calls Yba.prog 13 #[.pointer (some ⟨Nd, 0, none⟩), .pointer (some ⟨T, 0, none⟩), .agg (kc key)] w fun e w1 => e = .returned (.tuple #[]) ∧ Noted0 w w1 T N key C := by
  have lT : T < N := hN ▸ lt_of_heap hT
  have hlt : 129 < C.size := (Array.getElem?_eq_some_iff.1 hC).1
  have hmn : ∀ (w : World) (r : Option Nat), (binOp .eql 57 (.map r) (.map none)).run Yba.prog w = .ok (.bool r.isNone) w := fun w r => run_eql_map_nil w _ _ _ r Yba.underlying57
  go_enter Yba.func13, Yba.ntmps13
  go_wp2_with (first
    | (refine at_op (.box 30 (.tmp 2)) rfl ?_; refine wl_box rfl 30 (.tmp 2) rfl (.agg (kc key)) rfl N hN ?_; intro w1 u1)
    | (refine at_op (.load 57 (.tmp 9)) rfl ?_; refine wl_load1 rfl 57 (.tmp 9) rfl T 129 C 94 (0, 0) (.map .none) rfl (by exact u1.keep (by omega) hT) hC _ Yba.underlying57 rfl ?_)
    | (refine at_op (.makeMap 57 .none) rfl ?_; refine wl_makeMap rfl 57 rfl (N + 1) (u1.size_new hN) ?_; intro w2 u2)
    | (refine at_op (.store 57 (.tmp 16) (.tmp 13)) rfl ?_; refine wl_store1 rfl 57 (.tmp 16) (.tmp 13) rfl T 129 (.map (some (N + 1))) C 94 rfl rfl (by exact u2.keep (by omega) (u1.keep (by omega) hT)) hlt size57 rfl ?_; intro w3 u3))
  simp only [Act.put]
  refine wp_region_cut mixed [0, 1, 2, 3, 4, 5] 6 [] (by kernel_rfl) (by kernel_rfl) (fun c a d v w h => by cases d <;> exact h) ?_
  simp only [List.filterMap_cons, List.filterMap_nil, List.getElem?_toArray, List.getElem?_cons_zero, List.getElem?_cons_succ]
  refine (show wpQuiet _ _ _ _ [_, _, _, _, _, _] _ from ?_)
  have hcT : w3.drew.cell? ⟨T, 129, none⟩ = some (.map (some (N + 1))) := (cell_of_row w3 T 129 _ _ _ u3.here).trans (by simp [hlt])
  have hk1 : (Instr.loadAt 30 (.pointer (some ⟨N, 0, none⟩))).run Yba.prog w3.drew = .ok (.agg (kc key)) w3.drew := ld_kc30 (w := w3.drew) (u3.keep (by omega) (u2.keep (by omega) u1.here)) hkey
  repeat (first
    | go_big_quiet_step (fail)
    | (refine ws_load 30 (.tmp 5) rfl rfl (.pointer (some ⟨N, 0, none⟩)) (.agg (kc key)) rfl hk1 ?_; simp only [Act.put, List.setIfInBounds_toArray, List.set_cons_zero, List.set_cons_succ]))
  refine wpQuiet_nil (show wpList _ _ _ [_] _ _ from ?_)
  refine wl_mapUpdate rfl (.tmp 21) (.tmp 22) (.const (.bool true)) rfl (N + 1) key hkey true rfl rfl rfl 0 [] (fun q hq => by cases hq) (by exact (u3.keep (by omega) u2.here)) ?_
  intro w4 u4
  go_wp2
  go_end0
  have hs3 : w3.drew.heap.size = w3.heap.size := rfl
  refine ⟨rfl, ?_, u4.keep (by omega) (show w3.drew.heap[T]? = _ from u3.here), u4.here, ?_, ?_, ?_, ?_⟩
  · have := u4.size; have := u3.size; have := u2.size; have := u1.size; omega
  · intro k hk hkr
    rw [u4.other k (by omega)]
    exact (u3.other k hkr).trans ((u2.other k (by omega)).trans (u1.other k (by omega)))
  · exact u4.os.trans (u3.os.trans (u2.os.trans u1.os))
  · exact u4.tape.trans (u3.tape.trans (u2.tape.trans u1.tape))
  · exact u4.output.trans (u3.output.trans (u2.output.trans u1.output))
end Go.Proofs.Ybulkduau
