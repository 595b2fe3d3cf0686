/-
  'q.events = append(q.events, e)': nil, with room, or a new row: one law.
-/
import Derived.Test.YbulkduauLess
namespace Go.Proofs.Ybulkduau
open Go.RowKit Go.Split
open Extern.Stop (cell)

theorem take_set_snoc {α : Type} {l : List α} {n : Nat} (e : α) (h : n < l.length) : (l.set n e).take (n + 1) = l.take n ++ [e] := by
  rw [List.take_succ_eq_append_getElem (by simpa using h)]
  simp [List.take_set_of_le]
theorem getD_take {l : List Ev} {n i : Nat} (h : i < n) : (l.take n).getD i z0 = l.getD i z0 := by simp [List.getD, List.getElem?_take_of_lt h]
/-- The climb looks at nothing behind its place. -/
theorem climb_take : ∀ (f : Nat) (h : List Ev) (pos m : Nat) (e : Ev), pos < m → (climb f h pos e).take m = climb f (h.take m) pos e
  | 0, h, pos, m, e, hp => by simp [climb, List.take_set]
  | f + 1, h, pos, m, e, hp => by
    unfold climb
    rw [getD_take (by omega)]
    split
    · simp [List.take_set]
    · split
      · rw [climb_take f _ _ m e (by omega)]
        simp [List.take_set]
      · simp [List.take_set]
theorem set_self {l : List Ev} {n : Nat} {e : Ev} (h : l[n]? = some e) : l.set n e = l := by
  apply List.ext_getElem?
  intro i
  by_cases hi : n = i
  · subst hi
    have hlt := (List.getElem?_eq_some_iff.1 h).1
    rw [h]; simp [hlt]
  · rw [List.getElem?_set_ne hi]

theorem ecs_append (l m : List Ev) : (ecs (l ++ m)) = ecs l ++ ecs m := by simp [ecs]
theorem ecs_one (e : Ev) : ecs [e] = ec e := by simp [ecs]
theorem ecs_zeros (k : Nat) : Builtin.zeroCells (ec z0) k = ecs (List.replicate k z0) := by
  have hok : evsOk (List.replicate k z0) := fun x hx => by rw [List.eq_of_mem_replicate hx]; rfl
  have hz : (ec z0).size = 25 := ec_size rfl
  apply Array.ext_getElem?
  intro j
  rw [ecs_get _ hok]
  unfold Builtin.zeroCells
  rw [hz]
  by_cases hj : j < k * 25
  · have h1 : j / 25 < k := by omega
    have h2 : j % 25 < (ec z0).size := by rw [hz]; omega
    have e1 : ((Array.range (k * 25)).map fun i => (ec z0)[i % 25]!)[j]? = some ((ec z0)[j % 25]!) := by simp [hj]
    have e2 : (List.replicate k z0)[j / 25]? = some z0 := by simp [h1]
    rw [e1, e2, getElem!_pos (ec z0) (j % 25) h2]
    simp [h2]
  · have h1 : ¬ j / 25 < k := by omega
    simp [h1]
    omega
theorem ecs_take_range {w : World} {g n : Nat} {L : List Ev} {t : TypeId} {fr : Nat × Nat} (hb : w.heap[g]? = some (.cells (ecs L) t fr)) : w.rangeAt g 0 (ecs (L.take n)).toList := by
  intro j v hj
  rw [cell_of_row w g (0 + j) _ _ _ hb, Nat.zero_add]
  have e1 : ecs L = ecs (L.take n) ++ ecs (L.drop n) := by rw [← ecs_append, List.take_append_drop]
  have hlt : j < (ecs (L.take n)).size := by
    have := (List.getElem?_eq_some_iff.1 hj).1
    simpa using this
  rw [e1, Array.getElem?_append_left hlt]
  simpa using hj

theorem news_of {w : World} {B : Nat} {cs : Array Value} {t : TypeId} {fr : Nat × Nat} (hb : w.heap[B]? = some (.cells cs t fr)) : ∀ j u, cs.toList[j]? = some u → w.cell? ((⟨B, 0, none⟩ : Addr).add j) = some u := fun j u hu => by
  rw [Addr.add_mid, cell_of_row w B (0 + j) cs t fr hb, Nat.zero_add]
  simpa using hu
/-- The slice value of a heap's events: nil, or at the head of a row of its own. -/
structure Row (w : World) (v : Value) (n cap : Nat) (g : Nat) (L : List Ev) : Prop where
  ok : evsOk L
  len : L.length = cap
  le : n ≤ cap
  max : cap ≤ maxLen
  val : (v = .slice .none 0 0 ∧ n = 0 ∧ cap = 0) ∨ (v = .slice (some ⟨g, 0, none⟩) n cap ∧ w.heap[g]? = some (.cells (ecs L) 34 (0, 0)))

/-- What an append of one event leaves. -/
structure Appd (w w1 : World) (n cap g g1 cap1 : Nat) (L L1 : List Ev) (e : Ev) (N : Nat) : Prop where
  blk : w1.heap[g1]? = some (.cells (ecs L1) 34 (0, 0))
  ok : evsOk L1
  len : L1.length = cap1
  le : n + 1 ≤ cap1
  max : cap1 ≤ maxLen
  take : L1.take (n + 1) = L.take n ++ [e]
  wh : (g1 = g ∧ 0 < cap ∧ w1.heap.size = N) ∨ (g1 = N ∧ w1.heap.size = N + 1)
  other : ∀ k, k ≠ g1 → w1.heap[k]? = w.heap[k]?
  os : w1.os = w.os
  tape : w1.tape = w.tape
  output : w1.output = w.output

section
variable {ops : Array Oper} {rest : List Oper} {op : Oper} {a : Act} {w : World} {Q : Exit → Act → World → Prop}
theorem wl_append_ev (hgd : op.guard = none) (s x : Operand) (ho : op.op = .call { callee := .builtin .append, args := #[s, x], argTypes := #[26, 26] })
    (v : Value) (n cap g : Nat) (L : List Ev) (hs : a.eval s = v) (hR : Row w v n cap g L) (e : Ev) (he : e.to.length = 20) (b2 c : Nat) (hx : a.eval x = .slice (some ⟨b2, 0, none⟩) 1 c) (hb2 : w.heap[b2]? = some (.cells (ec e) 34 (0, 0)))
    (hn : n ≤ 1048576) (N : Nat) (hN : w.heap.size = N)
    (h : ∀ w1 g1 cap1 L1, Appd w w1 n cap g g1 cap1 L L1 e N → wpList Yba.prog ops Q rest (a.put op.dst (.slice (some ⟨g1, 0, none⟩) (n + 1) cap1)) w1) : wpList Yba.prog ops Q (op :: rest) a w := by
  refine wpList_plain hgd fun K hK => ?_
  subst hN
  obtain ⟨i, hi', hz, hsz, hb⟩ := info_parts info34
  have hsz25 : (ec e).size = 25 := ec_size he
  have hln : (ec e).toList.length = 1 * i.size := by rw [hsz]; simpa using hsz25
  have hnews : ∀ j u, (ec e).toList[j]? = some u → w.cell? ((⟨b2, 0, none⟩ : Addr).add j) = some u := news_of hb2
  have hone : ∀ u ∈ (ec e).toList, u.oneCell' = true := fun u hu => Array.all_eq_true_iff_forall_mem.1 (ec_one e) u (by simpa using hu)
  have h63 : ((n + 1 : Nat) : Int) ≤ 9223372036854775807 := by omega
  have hwok : evsOk (L.take n ++ [e]) := fun y hy => by
    rcases List.mem_append.1 hy with hy | hy
    · exact hR.ok y (List.mem_of_mem_take hy)
    · obtain rfl : y = e := by simpa using hy
      exact he
  have grown : ∀ (c1 : Nat) (w0 : World), n + 1 ≤ c1 → c1 ≤ maxLen → w0.heap = w.heap → w0.os = w.os → w0.tape = w.tape → w0.output = w.output →
      Appd w (w0.alloc (.cells (ecs (L.take n ++ [e] ++ List.replicate (c1 - (n + 1)) z0)) 34)) n cap g w.heap.size c1 L (L.take n ++ [e] ++ List.replicate (c1 - (n + 1)) z0) e w.heap.size := by
    intro c1 w0 h1 h2 hh ho1 ht1 hp1
    have htl : (L.take n).length = n := by have := hR.len; have := hR.le; simp; omega
    have hsw : w0.heap.size = w.heap.size := by rw [hh]
    refine ⟨by rw [← hsw]; exact heap_alloc_new w0 _, ?_, by simp [htl]; omega, h1, h2, ?_, .inr ⟨rfl, by simp [hsw]⟩, ?_, ho1, ht1, hp1⟩
    · intro y hy
      rcases List.mem_append.1 hy with hy | hy
      · exact hwok y hy
      · rw [List.eq_of_mem_replicate hy]; rfl
    · rw [List.take_append_of_le_length (by simp [htl]), List.take_of_length_le (by simp [htl])]
    · intro k hk
      show (w0.heap.push _)[k]? = _
      rw [Array.getElem?_push, if_neg (by omega), hh]
  rcases hR.val with ⟨rfl, rfl, rfl⟩ | ⟨rfl, hg⟩
  · have hr := run_append_nil (P := Yba.prog) w 26 op.type 34 i (.agg (ec z0)) Yba.underlying26 hi' hz ⟨b2, 0, none⟩ 1 c (ec e).toList hln hnews (by omega) (by omega) (by rw [hb]; omega)
    have hge := grownCap_ge w 1 0 34
    have hcm := grownCap_le_maxLen w 1 0 34 (by decide)
    have e1 : (ec e).toList.toArray ++ Builtin.zeroCells (Value.agg (ec z0)).cells (grownCap w 1 0 34 - 1) = ecs (L.take 0 ++ [e] ++ List.replicate (grownCap w 1 0 34 - (0 + 1)) z0) := by
      rw [ecs_append, ← ecs_zeros]; simp [ecs_one, Value.cells]
    rw [e1] at hr
    unfold Oper.wp
    simp only [execOp, ho, resolve, invoke, builtin, Sem.run_bind, Sem.run_pure, Result.andThen_ok, List.map_toArray, List.map_cons, List.map_nil, hs, hx, hr]
    exact hK _ _ (h _ _ _ _ (grown _ w.drew hge hcm rfl rfl rfl rfl))
  · by_cases hroom : n + 1 ≤ cap
    · have hLs := ecs_size L hR.ok
      have hlen := hR.len
      have hr := run_append_room_cells (P := Yba.prog) w 26 op.type 34 i Yba.underlying26 hi' g 0 n cap ⟨b2, 0, none⟩ 1 c (ec e).toList hln hnews hone hroom
        (fun j hj => by rw [cell_of_row w g _ _ _ _ hg, hsz]; rw [Array.length_toList, hsz25] at hj; simp; omega) (fun j _ => frozen_of_row w g _ _ _ hg)
      have u := upd_setCells g 34 (0, 0) (ec e).toList w (ecs L) (0 + n * i.size) hg
      rw [hsz] at u hr
      rw [ecs_set hR.ok he (by omega)] at u
      unfold Oper.wp
      simp only [execOp, ho, resolve, invoke, builtin, Sem.run_bind, Sem.run_pure, Result.andThen_ok, List.map_toArray, List.map_cons, List.map_nil, hs, hx, hr]
      have hlt := lt_of_heap hg
      refine hK _ _ (h _ _ _ _ ⟨u.here, hR.ok.set he n, by simp [hR.len], hroom, hR.max, take_set_snoc e (by omega), .inl ⟨rfl, by omega, by have := u.size; omega⟩, u.other, u.os, u.tape, u.output⟩)
    · have hlo : (ecs (L.take n)).toList.length = n * i.size := by
        have hk : evsOk (L.take n) := fun y hy => hR.ok y (List.mem_of_mem_take hy)
        have := ecs_size _ hk
        have := hR.len; have := hR.le
        rw [hsz]; simp at *; omega
      have hr := run_append_grow (P := Yba.prog) w 26 op.type 34 i (.agg (ec z0)) Yba.underlying26 hi' hz ⟨g, 0, none⟩ n cap (ecs (L.take n)).toList hlo (fun j v hv => by rw [Addr.add_mid]; exact ecs_take_range hg j v hv) ⟨b2, 0, none⟩ 1 c (ec e).toList hln hnews (by omega) h63 (growslice_fits (by omega) (by rw [hb]; omega))
      have hge := grownCap_ge w (n + 1) cap 34
      have hcm := grownCap_le_maxLen w (n + 1) cap 34 (by unfold maxLen; omega)
      have e1 : (ecs (L.take n)).toList.toArray ++ (ec e).toList.toArray ++ Builtin.zeroCells (Value.agg (ec z0)).cells (grownCap w (n + 1) cap 34 - (n + 1)) = ecs (L.take n ++ [e] ++ List.replicate (grownCap w (n + 1) cap 34 - (n + 1)) z0) := by
        rw [ecs_append, ecs_append, ← ecs_zeros]; simp [ecs_one, Value.cells]
      rw [e1] at hr
      unfold Oper.wp
      simp only [execOp, ho, resolve, invoke, builtin, Sem.run_bind, Sem.run_pure, Result.andThen_ok, List.map_toArray, List.map_cons, List.map_nil, hs, hx, hr]
      exact hK _ _ (h _ _ _ _ (grown _ w.drew hge hcm rfl rfl rfl rfl))
end
end Go.Proofs.Ybulkduau
