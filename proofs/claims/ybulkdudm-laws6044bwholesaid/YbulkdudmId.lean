/-
  IDs in memory: a row of [16]byte; 'append' of one.
-/
import Derived.Test.YbulkdudmRow
namespace Go.Proofs.Ybulkdudm.Id
open Go.RowKit Go.Split
open Extern.Stop (cell)

abbrev Ev := List UInt8
def z0 : Ev := List.replicate 16 0
def ec (e : Ev) : Array Value := kc e
/-- The cells of a row of them. -/
def ecs (l : List Ev) : Array Value := (l.flatMap fun e => (ec e).toList).toArray
/-- Each has its sixteen bytes. -/
def evsOk (l : List Ev) : Prop := ∀ e ∈ l, e.length = 16
theorem ec_size {e : Ev} (h : e.length = 16) : (ec e).size = 16 := by simp [ec, kc_size, h]
theorem ec_one (e : Ev) : (ec e).all (·.oneCell') = true := by
  rw [Array.all_eq_true_iff_forall_mem]
  intro v hv
  unfold ec kc at hv
  simp at hv
  obtain ⟨x, _, rfl⟩ := hv
  rfl
theorem size28 : (Yba.prog.info? 28).map (·.size) = some 16 := by kernel_rfl
theorem info28 : (Yba.prog.info? 28).map (fun i => (i.zero, i.size, i.bytes)) = some (some (.agg (ec z0)), 16, 16) := by kernel_rfl
theorem zero28 : (Yba.prog.info? 28).map (·.zero) = some (some (.agg (ec z0))) := by kernel_rfl
theorem ecs_get : ∀ (l : List Ev), evsOk l → ∀ j, (ecs l)[j]? = (l[j / 16]?).bind fun e => (ec e)[j % 16]?
  | [], _, j => by simp [ecs]
  | e :: l, h, j => by
    have he := ec_size (h e (List.mem_cons_self ..))
    have hel : (ec e).toList.length = 16 := by simpa using he
    have ih := ecs_get l (fun x hx => h x (List.mem_cons_of_mem _ hx))
    have e1 : (ecs (e :: l))[j]? = ((ec e).toList ++ l.flatMap fun e => (ec e).toList)[j]? := by simp [ecs]
    rw [e1]
    by_cases hj : j < 16
    · rw [List.getElem?_append_left (by omega)]
      have h1 : j / 16 = 0 := by omega
      have h2 : j % 16 = j := by omega
      rw [h1, h2]
      simp
    · rw [List.getElem?_append_right (by omega), hel]
      have h3 := ih (j - 16)
      have e2 : (ecs l)[j - 16]? = (l.flatMap fun e => (ec e).toList)[j - 16]? := by simp [ecs]
      rw [← e2, h3]
      have h1 : j / 16 = (j - 16) / 16 + 1 := by omega
      have h2 : j % 16 = (j - 16) % 16 := by omega
      rw [h1, h2]
      simp
theorem ecs_size : ∀ (l : List Ev), evsOk l → (ecs l).size = l.length * 16
  | [], _ => by simp [ecs]
  | e :: l, h => by
    have he := ec_size (h e (List.mem_cons_self ..))
    have ih := ecs_size l (fun x hx => h x (List.mem_cons_of_mem _ hx))
    simp only [ecs, List.size_toArray, List.flatMap_cons, List.length_append, Array.length_toList] at ih ⊢
    rw [ih, he]; simp; omega
theorem evsOk.getD {l : List Ev} (h : evsOk l) (i : Nat) : (l.getD i z0).length = 16 := by
  by_cases hi : i < l.length
  · have : l.getD i z0 ∈ l := by simp [List.getD, hi]
    exact h _ this
  · simp [List.getD, hi, z0]
theorem evsOk.set {l : List Ev} (h : evsOk l) {e : Ev} (he : e.length = 16) (i : Nat) : evsOk (l.set i e) := by
  intro x hx
  rcases List.mem_or_eq_of_mem_set hx with hx | rfl
  · exact h x hx
  · exact he
/-- One event out of the row. -/
theorem ecs_extract {l : List Ev} (h : evsOk l) {i : Nat} (hi : i < l.length) : (ecs l).extract (0 + i * 16) (0 + i * 16 + 16) = ec (l.getD i z0) := by
  have hz := ec_size (h.getD i)
  apply Array.ext_getElem?
  intro j
  rw [Array.getElem?_extract, ecs_size l h]
  by_cases hj : j < 16
  · rw [if_pos (by omega), ecs_get l h]
    have h1 : (0 + i * 16 + j) / 16 = i := by omega
    have h2 : (0 + i * 16 + j) % 16 = j := by omega
    rw [h1, h2]
    simp [List.getD, hi]
  · rw [if_neg (by omega), Array.getElem?_eq_none (by omega)]

theorem ecs_set {l : List Ev} (h : evsOk l) {e : Ev} (he : e.length = 16) {i : Nat} (hi : i < l.length) : putCells (ecs l) (0 + i * 16) (ec e).toList = ecs (l.set i e) := by
  have hz := ec_size he
  have hs := ecs_size l h
  apply Array.ext_getElem?
  intro j
  have hl : (ec e).toList.length = 16 := by simpa using hz
  rw [putCells_get _ _ _ _ (by rw [hl, hs]; omega), hl, ecs_get _ (h.set he i)]
  by_cases hj : 0 + i * 16 ≤ j ∧ j < 0 + i * 16 + 16
  · rw [if_pos hj]
    have h1 : j / 16 = i := by omega
    have h2 : j % 16 = j - (0 + i * 16) := by omega
    rw [h1, h2]
    simp [hi]
  · rw [if_neg hj, ecs_get l h]
    have h1 : i ≠ j / 16 := by omega
    rw [List.getElem?_set_ne h1]

theorem ecs_append (l m : List Ev) : (ecs (l ++ m)) = ecs l ++ ecs m := by simp [ecs]
theorem ecs_one (e : Ev) : ecs [e] = ec e := by simp [ecs]
theorem ecs_zeros (k : Nat) : Builtin.zeroCells (ec z0) k = ecs (List.replicate k z0) := by
  have hok : evsOk (List.replicate k z0) := fun x hx => by rw [List.eq_of_mem_replicate hx]; rfl
  have hz : (ec z0).size = 16 := ec_size rfl
  apply Array.ext_getElem?
  intro j
  rw [ecs_get _ hok]
  unfold Builtin.zeroCells
  rw [hz]
  by_cases hj : j < k * 16
  · have h1 : j / 16 < k := by omega
    have h2 : j % 16 < (ec z0).size := by rw [hz]; omega
    have e1 : ((Array.range (k * 16)).map fun i => (ec z0)[i % 16]!)[j]? = some ((ec z0)[j % 16]!) := by simp [hj]
    have e2 : (List.replicate k z0)[j / 16]? = some z0 := by simp [h1]
    rw [e1, e2, getElem!_pos (ec z0) (j % 16) h2]
    simp [h2]
  · have h1 : ¬ j / 16 < k := by omega
    simp [h1]
    omega
theorem ecs_take_range {w : World} {g n : Nat} {L : List Ev} {t : TypeId} {fr : Nat × Nat} (hb : w.heap[g]? = some (.cells (ecs L) t fr)) : w.rangeAt g 0 (ecs (L.take n)).toList := by
  intro j v hj
  rw [cell_of_row w g (0 + j) _ _ _ hb, Nat.zero_add]
  have e1 : ecs L = ecs (L.take n) ++ ecs (L.drop n) := by rw [← ecs_append, List.take_append_drop]
  have hlt : j < (ecs (L.take n)).size := by
    have := (List.getElem?_eq_some_iff.1 hj).1
    simpa using this
  rw [e1, Array.getElem?_append_left hlt]
  simpa using hj

/-- The slice value of a heap's events: nil, or at the head of a row of its own. -/
structure Row (w : World) (v : Value) (n cap : Nat) (g : Nat) (L : List Ev) : Prop where
  ok : evsOk L
  len : L.length = cap
  le : n ≤ cap
  max : cap ≤ maxLen
  val : (v = .slice .none 0 0 ∧ n = 0 ∧ cap = 0) ∨ (v = .slice (some ⟨g, 0, none⟩) n cap ∧ w.heap[g]? = some (.cells (ecs L) 28 (0, 0)))

/-- What an append of one event leaves. -/
structure Appd (w w1 : World) (n cap g g1 cap1 : Nat) (L L1 : List Ev) (e : Ev) (N : Nat) : Prop where
  blk : w1.heap[g1]? = some (.cells (ecs L1) 28 (0, 0))
  ok : evsOk L1
  len : L1.length = cap1
  le : n + 1 ≤ cap1
  max : cap1 ≤ maxLen
  take : L1.take (n + 1) = L.take n ++ [e]
  wh : (g1 = g ∧ 0 < cap ∧ w1.heap.size = N) ∨ (g1 = N ∧ w1.heap.size = N + 1)
  other : ∀ k, k ≠ g1 → w1.heap[k]? = w.heap[k]?
  os : w1.os = w.os
  tape : w1.tape = w.tape
  output : w1.output = w.output

section
variable {ops : Array Oper} {rest : List Oper} {op : Oper} {a : Act} {w : World} {Q : Exit → Act → World → Prop}
theorem wl_append_ev (hgd : op.guard = none) (s x : Operand) (ho : op.op = .call { callee := .builtin .append, args := #[s, x], argTypes := #[32, 32] })
    (v : Value) (n cap g : Nat) (L : List Ev) (hs : a.eval s = v) (hR : Row w v n cap g L) (e : Ev) (he : e.length = 16) (b2 c : Nat) (hx : a.eval x = .slice (some ⟨b2, 0, none⟩) 1 c) (hb2 : w.heap[b2]? = some (.cells (ec e) 28 (0, 0)))
    (hn : n ≤ 1048576) (N : Nat) (hN : w.heap.size = N)
    (h : ∀ w1 g1 cap1 L1, Appd w w1 n cap g g1 cap1 L L1 e N → wpList Yba.prog ops Q rest (a.put op.dst (.slice (some ⟨g1, 0, none⟩) (n + 1) cap1)) w1) : wpList Yba.prog ops Q (op :: rest) a w := by
  refine wpList_plain hgd fun K hK => ?_
  subst hN
  obtain ⟨i, hi', hz, hsz, hb⟩ := info_parts info28
  have hsz16 : (ec e).size = 16 := ec_size he
  have hln : (ec e).toList.length = 1 * i.size := by rw [hsz]; simpa using hsz16
  have hnews : ∀ j u, (ec e).toList[j]? = some u → w.cell? ((⟨b2, 0, none⟩ : Addr).add j) = some u := news_of hb2
  have hone : ∀ u ∈ (ec e).toList, u.oneCell' = true := fun u hu => Array.all_eq_true_iff_forall_mem.1 (ec_one e) u (by simpa using hu)
  have h63 : ((n + 1 : Nat) : Int) ≤ 9223372036854775807 := by omega
  have hwok : evsOk (L.take n ++ [e]) := fun y hy => by
    rcases List.mem_append.1 hy with hy | hy
    · exact hR.ok y (List.mem_of_mem_take hy)
    · obtain rfl : y = e := by simpa using hy
      exact he
  have grown : ∀ (c1 : Nat) (w0 : World), n + 1 ≤ c1 → c1 ≤ maxLen → w0.heap = w.heap → w0.os = w.os → w0.tape = w.tape → w0.output = w.output →
      Appd w (w0.alloc (.cells (ecs (L.take n ++ [e] ++ List.replicate (c1 - (n + 1)) z0)) 28)) n cap g w.heap.size c1 L (L.take n ++ [e] ++ List.replicate (c1 - (n + 1)) z0) e w.heap.size := by
    intro c1 w0 h1 h2 hh ho1 ht1 hp1
    have htl : (L.take n).length = n := by have := hR.len; have := hR.le; simp; omega
    have hsw : w0.heap.size = w.heap.size := by rw [hh]
    refine ⟨by rw [← hsw]; exact heap_alloc_new w0 _, ?_, by simp [htl]; omega, h1, h2, ?_, .inr ⟨rfl, by simp [hsw]⟩, ?_, ho1, ht1, hp1⟩
    · intro y hy
      rcases List.mem_append.1 hy with hy | hy
      · exact hwok y hy
      · rw [List.eq_of_mem_replicate hy]; rfl
    · rw [List.take_append_of_le_length (by simp [htl]), List.take_of_length_le (by simp [htl])]
    · intro k hk
      show (w0.heap.push _)[k]? = _
      rw [Array.getElem?_push, if_neg (by omega), hh]
  rcases hR.val with ⟨rfl, rfl, rfl⟩ | ⟨rfl, hg⟩
  · have hr := run_append_nil (P := Yba.prog) w 32 op.type 28 i (.agg (ec z0)) Yba.underlying32 hi' hz ⟨b2, 0, none⟩ 1 c (ec e).toList hln hnews (by omega) (by omega) (by rw [hb]; omega)
    have hge := grownCap_ge w 1 0 28
    have hcm := grownCap_le_maxLen w 1 0 28 (by decide)
    have e1 : (ec e).toList.toArray ++ Builtin.zeroCells (Value.agg (ec z0)).cells (grownCap w 1 0 28 - 1) = ecs (L.take 0 ++ [e] ++ List.replicate (grownCap w 1 0 28 - (0 + 1)) z0) := by
      rw [ecs_append, ← ecs_zeros]; simp [ecs_one, Value.cells]
    rw [e1] at hr
    unfold Oper.wp
    simp only [execOp, ho, resolve, invoke, builtin, Sem.run_bind, Sem.run_pure, Result.andThen_ok, List.map_toArray, List.map_cons, List.map_nil, hs, hx, hr]
    exact hK _ _ (h _ _ _ _ (grown _ w.drew hge hcm rfl rfl rfl rfl))
  · by_cases hroom : n + 1 ≤ cap
    · have hLs := ecs_size L hR.ok
      have hlen := hR.len
      have hr := run_append_room_cells (P := Yba.prog) w 32 op.type 28 i Yba.underlying32 hi' g 0 n cap ⟨b2, 0, none⟩ 1 c (ec e).toList hln hnews hone hroom
        (fun j hj => by rw [cell_of_row w g _ _ _ _ hg, hsz]; rw [Array.length_toList, hsz16] at hj; simp; omega) (fun j _ => frozen_of_row w g _ _ _ hg)
      have u := upd_setCells g 28 (0, 0) (ec e).toList w (ecs L) (0 + n * i.size) hg
      rw [hsz] at u hr
      rw [ecs_set hR.ok he (by omega)] at u
      unfold Oper.wp
      simp only [execOp, ho, resolve, invoke, builtin, Sem.run_bind, Sem.run_pure, Result.andThen_ok, List.map_toArray, List.map_cons, List.map_nil, hs, hx, hr]
      have hlt := lt_of_heap hg
      refine hK _ _ (h _ _ _ _ ⟨u.here, hR.ok.set he n, by simp [hR.len], hroom, hR.max, take_set_snoc e (by omega), .inl ⟨rfl, by omega, by have := u.size; omega⟩, u.other, u.os, u.tape, u.output⟩)
    · have hlo : (ecs (L.take n)).toList.length = n * i.size := by
        have hk : evsOk (L.take n) := fun y hy => hR.ok y (List.mem_of_mem_take hy)
        have := ecs_size _ hk
        have := hR.len; have := hR.le
        rw [hsz]; simp at *; omega
      have hgw : cap < n + 1 := by omega
      have hfit : (n + 1) * i.bytes ≤ 140737488355328 := by
        have : (n + 1) * 16 ≤ 140737488355328 := by omega
        rwa [← hb] at this
      have hr := run_append_grow (P := Yba.prog) w 32 op.type 28 i (.agg (ec z0)) Yba.underlying32 hi' hz ⟨g, 0, none⟩ n cap (ecs (L.take n)).toList hlo (fun j v hv => by rw [Addr.add_mid]; exact ecs_take_range hg j v hv) ⟨b2, 0, none⟩ 1 c (ec e).toList hln hnews hgw h63 (growslice_fits hgw hfit)
      have hge := grownCap_ge w (n + 1) cap 28
      have hcm := grownCap_le_maxLen w (n + 1) cap 28 (by unfold maxLen; omega)
      have e1 : (ecs (L.take n)).toList.toArray ++ (ec e).toList.toArray ++ Builtin.zeroCells (Value.agg (ec z0)).cells (grownCap w (n + 1) cap 28 - (n + 1)) = ecs (L.take n ++ [e] ++ List.replicate (grownCap w (n + 1) cap 28 - (n + 1)) z0) := by
        rw [ecs_append, ecs_append, ← ecs_zeros]; simp [ecs_one, Value.cells]
      rw [e1] at hr
      unfold Oper.wp
      simp only [execOp, ho, resolve, invoke, builtin, Sem.run_bind, Sem.run_pure, Result.andThen_ok, List.map_toArray, List.map_cons, List.map_nil, hs, hx, hr]
      exact hK _ _ (h _ _ _ _ (grown _ w.drew hge hcm rfl rfl rfl rfl))
end
end Go.Proofs.Ybulkdudm.Id
