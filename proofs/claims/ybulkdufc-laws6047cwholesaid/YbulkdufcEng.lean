/-
  THE WALK OF A GREAT FRAME: the frame is a function of the slots; what is known of it is a list.
-/
import Derived.Test.YbulkdufcDestroyB
namespace Go.Proofs.Ybulkdufc
open Go.RowKit Go.Split

/-- The slots of the list over all others. -/
def look : List (Nat × Value) → (Nat → Value) → Nat → Value
  | [], s, k => s k
  | (d, v) :: l, s, k => bif Nat.beq k d then v else look l s k
/-- What an operand is. -/
def ev (s : Nat → Value) : Operand → Value
  | .tmp t => s t
  | .const v => v
  | .global g => .pointer (some ⟨g, 0, none⟩)
  | .func f => .func (.func f) #[] #[]
/-- The frame a is the function s. -/
structure Fr (a : Act) (s : Nat → Value) : Prop where
  size : a.tmps.size = 467
  val : ∀ k, a.tmps.getD k undef = s k
  defers : a.defers = []
theorem Fr.ev {a : Act} {s : Nat → Value} (F : Fr a s) : a.eval = ev s := funext fun x => by
  cases x <;> simp only [Act.eval, Ybulkdufc.ev, F.val]
theorem Fr.put {a : Act} {s : Nat → Value} {l : List (Nat × Value)} (F : Fr a (look l s)) (d : Nat) (v : Value) (h : d < 467) : Fr (a.put (some d) v) (look ((d, v) :: l) s) := by
  refine ⟨?_, fun k => ?_, F.defers⟩
  · simp [Act.put, F.size]
  · have hk := F.val k
    have hs := F.size
    simp only [Act.put, look]
    by_cases e : k = d
    · subst e
      rw [show Nat.beq k k = true from Nat.beq_refl k, cond_true]
      simp [Array.getD, hs, h]
    · rw [show Nat.beq k d = false from by rw [Bool.eq_false_iff]; intro hb; exact e (Nat.eq_of_beq_eq_true hb), cond_false, ← hk]
      simp only [Array.getD_eq_getD_getElem?]
      rw [Array.getElem?_setIfInBounds_ne (fun q => e q.symm)]
/-- The guards, off the function. -/
def yl (ops : Array Oper) (s : Nat → Value) (j : Nat) : Option Bool :=
  match (ops[j]?).bind (·.dst) with
  | some k => (match s k with
    | .bool b => some b
    | _ => none)
  | none => none
theorem Fr.yielded {a : Act} {s : Nat → Value} (F : Fr a s) (ops : Array Oper) : yielded ops a.tmps = yl ops s := funext fun j => by
  unfold Go.yielded yl
  cases (ops[j]?).bind (·.dst) with
  | none => rfl
  | some k =>
    have hk := F.val k
    show (match a.tmps[k]? with | some (.bool b) => some b | _ => none) = (match s k with | .bool b => some b | _ => none)
    rw [← hk]
    simp only [Array.getD_eq_getD_getElem?]
    cases a.tmps[k]? with
    | none => rfl
    | some v => cases v <;> rfl
def agrees : List (Nat × Value) → (Nat → Value) → Prop
  | [], _ => True
  | (k, v) :: l, s => s k = v ∧ agrees l s
theorem look_over : ∀ (l : List (Nat × Value)) (s : Nat → Value), agrees l s → look l s = s
  | [], _, _ => rfl
  | (k, v) :: l, s, h => funext fun x => by
    simp only [look, look_over l s h.2]
    by_cases e : x = k
    · subst e
      rw [show Nat.beq x x = true from Nat.beq_refl x, cond_true, h.1]
    · rw [show Nat.beq x k = false from by rw [Bool.eq_false_iff]; intro hb; exact e (Nat.eq_of_beq_eq_true hb), cond_false]

/-! ### the walks -/
def wpL (P : Program) (ops : Array Oper) (Q : Exit → Act → World → Prop) (rest : List Oper) (s : Nat → Value) (w : World) : Prop := ∀ a, Fr a s → wpList P ops Q rest a w
def cL (P : Program) (c : Code) (Q : Exit → Act → World → Prop) (s : Nat → Value) (w : World) : Prop := ∀ a, Fr a s → Code.wp P c Q a w
def qL (P : Program) (ops : Array Oper) (C : World → Prop) (R : Act → Prop) (rest : List Oper) (s : Nat → Value) : Prop := ∀ a, Fr a s → wpQuiet P ops C R rest a
def tL (P : Program) (ops : Array Oper) (C : World → Prop) (R : Act → Prop) (rest : List Oper) (s : Nat → Value) : Prop := ∀ a, Fr a s → wpTake P ops C R rest a
section
variable {P : Program} {ops : Array Oper} {Q : Exit → Act → World → Prop} {rest : List Oper} {op : Oper} {s : Nat → Value} {l : List (Nat × Value)} {w w0 : World} {B : Nat} {L : List Obj} {x y : Code}
/-- The known slots are named anew. -/
theorem cL_as (l1 : List (Nat × Value)) (h : agrees l1 s) (hc : cL P x Q (look l1 s) w) : cL P x Q s w := by rwa [look_over l1 s h] at hc
theorem cL_seq (h : cL P x (Exit.then (fun a w => Code.wp P y Q a w) Q) s w) : cL P (.seq x y) Q s w := fun a F => wp_seq (h a F)
theorem cL_next (h : cL P y Q s w) : cL P .skip (Exit.then (fun a w => Code.wp P y Q a w) Q) s w := fun a F => wp_skip (h a F)
theorem cL_skip (h : ∀ a, Fr a s → Q .normal a w) : cL P .skip Q s w := fun a F => wp_skip (h a F)
theorem cL_block {id : Nat} (h : cL P x (Exit.inBlock id Q) s w) : cL P (.block id x) Q s w := fun a F => wp_block (h a F)
theorem cL_if (b : Bool) {c : Operand} (hb : ev s c = .bool b) (h : cL P (bif b then x else y) Q s w) : cL P (.cond c x y) Q s w := fun a F => by
  have hc : a.eval c = .bool b := by rw [F.ev, hb]
  cases b
  · exact wp_cond_false hc (h a F)
  · exact wp_cond_true hc (h a F)
theorem cL_region {id : Nat} {l1 : List Oper} (h : wpL P l1.toArray Q l1 s w) : cL P (.region id l1.toArray false) Q s w := fun a F => wp_region_lit (h a F)
theorem L_nil (h : ∀ a, Fr a s → Q .normal a w) : wpL P ops Q [] s w := fun a F => wpList_nil (h a F)
/-- One operation that yields a value and leaves the world. -/
theorem L_run (d : Nat) (v : Value) (M : Mem w0 w B L) (hrun : ∀ w', Mem w0 w' B L → (execOp (ev (look l s)) op).run P w' = .ok (.value v) w') (h : wpL P ops Q rest (look ((d, v) :: l) s) w)
    (hw : Region.wanted op (yl ops (look l s)) = true := by rfl) (hd : op.dst = some d := by rfl) (hlt : d < 467 := by decide) : wpL P ops Q (op :: rest) (look l s) w := fun a F => by
  refine unguard (by rw [F.yielded]; exact hw) (wpList_plain rfl fun K hK => ?_)
  have hr := hrun w M
  rw [← F.ev] at hr
  unfold Oper.wp
  rw [show (execOp a.eval { op with guard := none }) = execOp a.eval op from rfl, hr]
  exact hK _ _ (by show wpList P ops Q rest (a.put op.dst v) w; rw [hd]; exact h _ (F.put d v hlt))
/-- One operation that its guard passes over. -/
theorem L_pass (d : Nat) (h : wpL P ops Q rest (look ((d, undef) :: l) s) w) (hw : Region.wanted op (yl ops (look l s)) = false := by rfl) (hd : op.dst = some d := by rfl) (hlt : d < 467 := by decide) : wpL P ops Q (op :: rest) (look l s) w := fun a F => by
  refine wpList_skip (by rw [F.yielded]; exact hw) ?_
  rw [hd]; exact h _ (F.put d undef hlt)
theorem q_run {C : World → Prop} {R : Act → Prop} (d : Nat) (v : Value) (hC : ∀ w', C w' → Mem w0 w' B L) (hrun : ∀ w', Mem w0 w' B L → (execOp (ev (look l s)) op).run P w' = .ok (.value v) w') (h : qL P ops C R rest (look ((d, v) :: l) s))
    (hw : Region.wanted op (yl ops (look l s)) = true := by rfl) (hd : op.dst = some d := by rfl) (hlt : d < 467 := by decide) : qL P ops C R (op :: rest) (look l s) := fun a F =>
  wpQuiet_step fun K hK => by
    rw [if_pos (by rw [F.yielded]; exact hw)]
    refine ⟨v, fun w1 h1 => ?_, hK _ (by rw [hd]; exact h _ (F.put d v hlt))⟩
    unfold Oper.quietAt
    rw [F.ev, hrun w1 (hC w1 h1)]
    exact ⟨rfl, rfl⟩
theorem q_pass {C : World → Prop} {R : Act → Prop} (d : Nat) (h : qL P ops C R rest (look ((d, undef) :: l) s)) (hw : Region.wanted op (yl ops (look l s)) = false := by rfl) (hd : op.dst = some d := by rfl) (hlt : d < 467 := by decide) : qL P ops C R (op :: rest) (look l s) := fun a F =>
  wpQuiet_step fun K hK => by
    rw [if_neg (by rw [F.yielded, hw]; exact Bool.false_ne_true)]
    exact hK _ (by rw [hd]; exact h _ (F.put d undef hlt))
theorem q_nil {C : World → Prop} {R : Act → Prop} (h : ∀ a, Fr a s → R a) : qL P ops C R [] s := fun a F => wpQuiet_nil (h a F)
theorem t_run {C : World → Prop} {R : Act → Prop} (d : Nat) (v : Value) (hC : ∀ w', C w' → Mem w0 w' B L) (hrun : ∀ w', Mem w0 w' B L → (execOp (ev (look l s)) op).run P w' = .ok (.value v) w') (h : tL P ops C R rest (look ((d, v) :: l) s))
    (hw : Region.wanted op (yl ops (look l s)) = true := by rfl) (hd : op.dst = some d := by rfl) (hlt : d < 467 := by decide) : tL P ops C R (op :: rest) (look l s) := fun a F =>
  wt_run _ rfl (by rw [F.yielded]; exact hw) v (fun w1 h1 => by rw [F.ev]; exact hrun w1 (hC w1 h1)) (by rw [hd]; exact h _ (F.put d v hlt))
theorem t_nil {C : World → Prop} {R : Act → Prop} (h : ∀ a, Fr a s → R a) : tL P ops C R [] s := fun a F => wt_nil (h a F)

/-! ### the run equations -/
section
variable {ρ : Operand → Value}
theorem ex_move {o : Operand} (v : Value) (ho : op.op = .move o ∨ op.op = .assign o := by first | exact .inl rfl | exact .inr rfl) (hv : ρ o = v := by rfl) : (execOp ρ op).run P w = .ok (.value v) w := by
  rcases ho with ho | ho <;> simp only [execOp, ho, hv, Sem.run_pure]
theorem ex_pick {c o1 o2 : Operand} (b : Bool) (v : Value) (ho : op.op = .pick c o1 o2 := by rfl) (hb : ρ c = .bool b := by rfl) (hv : ρ (bif b then o1 else o2) = v := by rfl) : (execOp ρ op).run P w = .ok (.value v) w := by
  cases b <;> simp_all [execOp, asBool]
theorem ex_nil {o : Operand} (ad : Addr) (ho : op.op = .nilCheck o := by rfl) (hv : ρ o = .pointer (some ad) := by rfl) : (execOp ρ op).run P w = .ok (.value (.pointer (some ad))) w := by
  simp only [execOp, ho, hv, Sem.run_pure]
theorem ex_field {ty : TypeId} {o : Operand} {f : Nat} (p v : Value) (hr : ∀ w, (Instr.fieldAt ty p f).run P w = .ok v w) (ho : op.op = .fieldAddr ty o f := by rfl) (hv : ρ o = p := by rfl) : (execOp ρ op).run P w = .ok (.value v) w := by
  simp only [execOp, ho, hv, Sem.run_bind, hr, Result.andThen_ok, Sem.run_pure]
theorem ex_load {ty : TypeId} {o : Operand} (p v : Value) (hr : (Instr.loadAt ty p).run P w = .ok v w) (ho : op.op = .load ty o := by rfl) (hv : ρ o = p := by rfl) : (execOp ρ op).run P w = .ok (.value v) w := by
  simp only [execOp, ho, hv, Sem.run_bind, hr, Result.andThen_ok, Sem.run_pure]
theorem ex_bin {o : BinOp} {t t2 : TypeId} {x y : Operand} (vx vy v : Value) (hg : (eqGuard o t x y vx vy).run P w = .ok () w) (hr : (binOp o t vx vy).run P w = .ok v w) (ho : op.op = .binOp o t x y t2 := by rfl) (hx : ρ x = vx := by rfl) (hy : ρ y = vy := by rfl) : (execOp ρ op).run P w = .ok (.value v) w := by
  simp only [execOp, ho, hx, hy, Sem.run_bind, hg, hr, Result.andThen_ok, Sem.run_pure]
theorem ex_lookup {mt : TypeId} {m k : Operand} {ok : Bool} (vm vk v : Value) (hr : (Instr.lookup mt vm vk ok).run P w = .ok v w) (ho : op.op = .lookup mt m k ok := by rfl) (hm : ρ m = vm := by rfl) (hk : ρ k = vk := by rfl) : (execOp ρ op).run P w = .ok (.value v) w := by
  simp only [execOp, ho, hm, hk, Sem.run_bind, hr, Result.andThen_ok, Sem.run_pure]
theorem ex_len {mt : TypeId} {m : Operand} (vm v : Value) (hr : ∀ ty, (Builtin.len_ #[mt] ty #[vm]).run P w = .ok v w) (ho : op.op = .call { callee := .builtin .len, args := #[m], argTypes := #[mt] } := by rfl) (hm : ρ m = vm := by rfl) : (execOp ρ op).run P w = .ok (.value v) w := by
  simp only [execOp, ho, resolve, invoke, builtin, Sem.run_bind, Sem.run_pure, Result.andThen_ok, List.map_toArray, List.map_cons, List.map_nil, hm, hr]
theorem ex_extract {o : Operand} {i : Nat} (p v : Value) (hr : ∀ w, (Instr.extract p i).run P w = .ok v w) (ho : op.op = .extract o i := by rfl) (hv : ρ o = p := by rfl) : (execOp ρ op).run P w = .ok (.value v) w := by
  simp only [execOp, ho, hv, Sem.run_bind, hr, Result.andThen_ok, Sem.run_pure]
end

/-! ### memory read -/
theorem run_load1 (M : Mem w0 w B L) {j i : Nat} {C : Array Value} {t : TypeId} {fr : Nat × Nat} {v : Value} (hb : L[j]? = some (.cells C t fr)) (hv : C[i]? = some v) {ty : TypeId} {d : TypeDesc} (hu : P.underlying ty = some d) (hd : d.isRow = false) :
    (Instr.loadAt ty (.pointer (some ⟨B + j, i, none⟩))).run P w = .ok v w := by
  have hcell : w.cell? ⟨B + j, i, none⟩ = some v := by rw [cell_of_row w (B + j) i C t fr (M.get hb), hv]
  have hagg : (isAgg ty).run P w = .ok false w := by
    unfold isAgg
    rw [Sem.run_bind, run_underlying hu w]
    cases d <;> simp_all
  simp only [Instr.loadAt, Instr.sureAddr, Sem.run_bind, Sem.run_pure, Result.andThen_ok]
  simp [loadVar, hagg, hcell, Result.andThen]

/-! ### writes and calls -/
theorem L_makeMap (d n : Nat) (M : Mem w0 w B L) (hn : L.length = n) (h : ∀ w1, Mem w0 w1 B (L ++ [.map #[] 0]) → wpL P ops Q rest (look ((d, .map (some (B + n))) :: l) s) w1) {t : TypeId}
    (ho : op.op = .makeMap t .none := by rfl) (hgd : op.guard = none := by rfl) (hd : op.dst = some d := by rfl) (hlt : d < 467 := by decide) : wpL P ops Q (op :: rest) (look l s) w := fun _ F =>
  m_makeMap hgd t ho M n hn fun w1 M1 => by rw [hd]; exact h w1 M1 _ (F.put _ _ hlt)
theorem L_build (d : Nat) (vals : List (Nat × Value)) (cells : Array Value) {t : TypeId} {parts : Array (Nat × Operand)} (hc : P.built t vals = some cells) (h : wpL P ops Q rest (look ((d, .agg cells) :: l) s) w)
    (ho : op.op = .build t parts := by rfl) (hv : parts.toList.map (fun q => (q.1, ev (look l s) q.2)) = vals := by rfl) (hgd : op.guard = none := by rfl) (hd : op.dst = some d := by rfl) (hlt : d < 467 := by decide) : wpL P ops Q (op :: rest) (look l s) w := fun _ F =>
  wl_build hgd t parts ho vals cells (by rw [F.ev]; exact hv) hc (by rw [hd]; exact h _ (F.put _ _ hlt))
theorem L_box (d n : Nat) (cells : Array Value) (M : Mem w0 w B L) (hn : L.length = n) {t : TypeId} {o : Operand} (h : ∀ w1, Mem w0 w1 B (L ++ [.cells cells t (0, 0)]) → wpL P ops Q rest (look ((d, .pointer (some ⟨B + n, 0, none⟩)) :: l) s) w1)
    (ho : op.op = .box t o := by rfl) (hv : ev (look l s) o = .agg cells := by rfl) (hgd : op.guard = none := by rfl) (hd : op.dst = some d := by rfl) (hlt : d < 467 := by decide) : wpL P ops Q (op :: rest) (look l s) w := fun _ F =>
  m_box hgd t o ho (.agg cells) (by rw [F.ev]; exact hv) M n hn fun w1 M1 => by rw [hd]; exact h w1 M1 _ (F.put _ _ hlt)
theorem L_alloc (d n : Nat) (z : Value) (M : Mem w0 w B L) (hn : L.length = n) {t : TypeId} (hz : (P.info? t).map (·.zero) = some (some z)) (h : ∀ w1, Mem w0 w1 B (L ++ [.cells z.cells t (0, 0)]) → wpL P ops Q rest (look ((d, .pointer (some ⟨B + n, 0, none⟩)) :: l) s) w1)
    (ho : op.op = .alloc t := by rfl) (hgd : op.guard = none := by rfl) (hd : op.dst = some d := by rfl) (hlt : d < 467 := by decide) : wpL P ops Q (op :: rest) (look l s) w := fun _ F =>
  m_alloc hgd t ho z hz M n hn fun w1 M1 => by rw [hd]; exact h w1 M1 _ (F.put _ _ hlt)
theorem L_store1 (j i : Nat) (v : Value) (C : Array Value) (t : TypeId) {ty : TypeId} {x y : Operand} (M : Mem w0 w B L) (hb : L[j]? = some (.cells C t (0, 0))) (hlt : i < C.size) (hi : (P.info? ty).map (·.size) = some 1)
    (h : ∀ w1, Mem w0 w1 B (L.set j (.cells (C.setIfInBounds i v) t (0, 0))) → wpL P ops Q rest (look l s) w1)
    (ho : op.op = .store ty x y := by rfl) (hx : ev (look l s) x = .pointer (some ⟨B + j, i, none⟩) := by rfl) (hy : ev (look l s) y = v := by rfl) (h1 : v.oneCell' = true := by rfl) (hgd : op.guard = none := by rfl) (hd : op.dst = none := by rfl) : wpL P ops Q (op :: rest) (look l s) w := fun _ F =>
  m_store1 hgd ty x y ho j i v C t (by rw [F.ev]; exact hx) (by rw [F.ev]; exact hy) M hb hlt hi h1 fun w1 M1 => by rw [hd]; exact h w1 M1 _ F
theorem L_update (j c : Nat) (es : Array MapEntry) (key v : Value) {mt kt el : TypeId} {m k x : Operand} (M : Mem w0 w B L) (hb : L[j]? = some (.map es c)) (hu : P.underlying mt = some (.map kt el)) (hck : ∀ w : World, (Instr.checkKey false 10000 kt key).run P w = .ok () w)
    (hf : ∀ w : World, (Instr.findKey kt key es.toList).run P w = .ok none w) (h : ∀ w1, Mem w0 w1 B (L.set j (.map (es.push { key := key, val := v, born := c }) (c + 1))) → wpL P ops Q rest (look l s) w1)
    (ho : op.op = .mapUpdate mt m k x ∨ op.op = .insert mt m k x := by first | exact .inl rfl | exact .inr rfl) (hm : ev (look l s) m = .map (some (B + j)) := by rfl) (hk : ev (look l s) k = key := by rfl) (hx : ev (look l s) x = v := by rfl) (hgd : op.guard = none := by rfl) (hd : op.dst = none := by rfl) : wpL P ops Q (op :: rest) (look l s) w := fun _ F =>
  m_update hgd mt kt el m k x ho j c es key v (by rw [F.ev]; exact hm) (by rw [F.ev]; exact hk) (by rw [F.ev]; exact hx) M hb hu hck hf fun w1 M1 => by rw [hd]; exact h w1 M1 _ F
theorem L_call (d : Nat) (f : FuncId) (args : Array Value) (hrun : (execOp (ev (look l s)) op).run P w = .ok (.enter f args) w) (hc : Calls P f args w fun r w1 => ∃ v, r = .returned v ∧ wpL P ops Q rest (look ((d, v) :: l) s) w1)
    (hgd : op.guard = none := by rfl) (hd : op.dst = some d := by rfl) (hlt : d < 467 := by decide) : wpL P ops Q (op :: rest) (look l s) w := fun a F => by
  refine wpList_plain hgd fun K hK => ?_
  unfold Oper.wp
  rw [F.ev, hrun, Oper.upon_enter]
  refine hc.mono ?_
  rintro r w1 ⟨v, rfl, h⟩
  exact hK _ _ (by rw [hd]; exact h _ (F.put _ _ hlt))
end
/-! ### the function's statements, by their number -/
def dropC : Nat → Code → Code
  | 0, c => c
  | n + 1, .seq _ b => dropC n b
  | _ + 1, c => c
def headC : Code → Code
  | .seq a _ => a
  | c => c
/-- All from the n-th statement on. -/
def cT (n : Nat) (Q : Exit → Act → World → Prop) (s : Nat → Value) (w : World) : Prop := cL Yba.prog (dropC n (Yba.f3.body.getD .skip)) Q s w
theorem cT_step (n : Nat) {Q : Exit → Act → World → Prop} {s : Nat → Value} {w : World} (h : cL Yba.prog (headC (dropC n (Yba.f3.body.getD .skip))) (Exit.then (fun a w => Code.wp Yba.prog (dropC (n + 1) (Yba.f3.body.getD .skip)) Q a w) Q) s w)
    (he : dropC n (Yba.f3.body.getD .skip) = .seq (headC (dropC n (Yba.f3.body.getD .skip))) (dropC (n + 1) (Yba.f3.body.getD .skip)) := by kernel_rfl) : cT n Q s w := by
  unfold cT
  rw [he]
  exact cL_seq h
end Go.Proofs.Ybulkdufc
