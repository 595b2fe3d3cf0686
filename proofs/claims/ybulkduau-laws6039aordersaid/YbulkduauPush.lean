import Derived.Test.YbulkduauLib
namespace Go.Proofs.Ybulkduau
open Go.RowKit
theorem info49 : (Yba.prog.info? 49).map (fun i => (i.zero, i.size, i.bytes)) = some (some (.pointer none), 1, 8) := by kernel_rfl
theorem size3 : (Yba.prog.info? 3).map (·.size) = some 1 := by kernel_rfl
theorem size46 : (Yba.prog.info? 46).map (·.size) = some 1 := by kernel_rfl
theorem run_ta49 (v : Value) (w : World) : (Instr.typeAssert (.iface 49 v) 20 49 false).run Yba.prog w = .ok v w := by
  simp [Instr.typeAssert, run_underlying Yba.underlying49]
theorem push_olds {w w1 w2 : World} {E g N : Nat} {ps : Array Value} {o1 o2 : Obj} (hg : w.heap[g]? = some (.cells ps 49 (0, 0))) (hEg : E ≠ g) (lg : g < N) (u1 : Upd w w1 E o1) (u2 : Upd w1 w2 N o2) : w2.rangeAt g 0 ps.toList := by
  intro j v hj
  rw [cell_of_row w2 g (0 + j) ps 49 (0, 0) (u2.keep (by omega) (u1.keep (fun e => hEg e.symm) hg))]
  simpa using hj
theorem push_news {w1 w2 : World} {N : Nat} {v : Value} (u2 : Upd w1 w2 N (.cells #[v] 49 (0, 0))) : w2.rangeAt N 0 [v] := by
  intro j u hj
  rw [cell_of_row w2 N (0 + j) _ 49 (0, 0) u2.here]
  simpa using hj
/-- What Push leaves: the variable H holds the longer slice, in a new block; the pushed element's place is set; nothing else has turned. -/
structure Pushed (w w1 : World) (H E n N cap : Nat) (C ps D : Array Value) : Prop where
  size : w1.heap.size = N + 2
  atH : w1.heap[H]? = some (.cells #[.slice (some ⟨N + 1, 0, none⟩) (n + 1) cap] 46 (0, 0))
  atE : w1.heap[E]? = some (.cells (C.setIfInBounds 21 (.int .i64 n)) 51 (0, 0))
  atD : w1.heap[N + 1]? = some (.cells D 49 (0, 0))
  len : n + 1 ≤ D.size
  elems : D.toList.take (n + 1) = ps.toList ++ [.pointer (some ⟨E, 0, none⟩)]
  other : ∀ k, k < N → k ≠ H → k ≠ E → w1.heap[k]? = w.heap[k]?
  os : w1.os = w.os
  tape : w1.tape = w.tape
  output : w1.output = w.output
set_option maxRecDepth 100000 in
set_option maxHeartbeats 400000 in
theorem push_any (w : World) (H E g n N : Nat) (C : Array Value) (ps : Array Value)
    (hH : w.heap[H]? = some (.cells #[.slice (some ⟨g, 0, none⟩) n n] 46 (0, 0)))
    (hE : w.heap[E]? = some (.cells C 51 (0, 0))) (hC : C.size = 22)
    (hg : w.heap[g]? = some (.cells ps 49 (0, 0))) (hps : ps.size = n) (hHE : H ≠ E) (hEg : E ≠ g) (hN : w.heap.size = N) (hn : n ≤ 1048576) :
    Calls Yba.prog 12 #[.pointer (some ⟨H, 0, none⟩), .iface 49 (.pointer (some ⟨E, 0, none⟩))] w fun e w1 => e = .returned (.tuple #[]) ∧ 
      ∃ (cap : Nat) (D : Array Value), Pushed w w1 H E n N cap C ps D := by
  have lH : H < N := hN ▸ lt_of_heap hH
  have lE : E < N := hN ▸ lt_of_heap hE
  have lg : g < N := hN ▸ lt_of_heap hg
  have hcH : w.cell? ⟨H, 0, none⟩ = some (.slice (some ⟨g, 0, none⟩) n n) := by rw [cell_of_row w H 0 _ _ _ hH]; rfl
  have hta := run_ta49
  have hsz1 : ∀ w1, Upd w w1 E (.cells (C.setIfInBounds 21 (.int .i64 n)) 51 (0, 0)) → w1.heap.size = N := fun w1 u => u.size_old hN lE
  go_enter Yba.func12, Yba.ntmps12
  go_wp2_with (first
    | (refine wl_store1 rfl 3 (.tmp 13) (.tmp 11) rfl E 21 (.int .i64 n) C 51 rfl rfl hE (by omega) size3 rfl ?_; intro w1 u1; have hcH1 : w1.cell? ⟨H, 0, none⟩ = some (.slice (some ⟨g, 0, none⟩) n n) := (cell_of_row w1 H 0 _ _ _ (u1.keep hHE hH)).trans rfl)
    | (refine wl_slice1 rfl 46 (.tmp 18) rfl (.pointer (some ⟨E, 0, none⟩)) rfl 49 (fun _ => by kernel_rfl) N (u1.size_old hN lE) ?_; intro w2 u2)
    | (refine wl_append_grow rfl (.tmp 17) (.tmp 19) 46 rfl 49 (.pointer none) 1 8 Yba.underlying46 info49 rfl g n n ps.toList rfl (by simp [hps]) (by exact push_olds hg hEg lg u1 u2) N 1 1 [.pointer (some ⟨E, 0, none⟩)] rfl rfl (by exact push_news u2) (by omega) (by unfold maxLen; omega) (by omega) (N + 1) (u2.size_new (u1.size_old hN lE)) ?_; intro w3 cap D u3 hcap1 hcap2 hD1 hD2)
    | (refine wl_store1 rfl 46 (.tmp 21) (.tmp 20) rfl H 0 (.slice (some ⟨N + 1, 0, none⟩) (n + 1) cap) #[.slice (some ⟨g, 0, none⟩) n n] 46 rfl rfl (by exact u3.keep (by omega) (u2.keep (by omega) (u1.keep hHE hH))) (by simp) size46 rfl ?_; intro w4 u4))
  go_end0
  have lN : E ≠ H := fun e => hHE e.symm
  refine ⟨rfl, cap, D, ?_, u4.here, u4.keep lN (u3.keep (by omega) (u2.keep (by omega) u1.here)), u4.keep (by omega) u3.here, by omega, by simpa using hD2, ?_, ?_, ?_, ?_⟩
  · exact u4.size_old (u3.size_new (u2.size_new (u1.size_old hN lE))) (by omega)
  · intro k hk h1 h2
    rw [u4.other k h1, u3.other k (by omega), u2.other k (by omega), u1.other k h2]
  · rw [u4.os, u3.os, u2.os, u1.os]
  · rw [u4.tape, u3.tape, u2.tape, u1.tape]
  · rw [u4.output, u3.output, u2.output, u1.output]
end Go.Proofs.Ybulkduau
