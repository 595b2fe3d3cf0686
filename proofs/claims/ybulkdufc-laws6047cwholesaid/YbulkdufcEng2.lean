/-
  Regions that draw, in the walk of a great frame; the memory of this function.
-/
import Derived.Test.YbulkdufcOps
namespace Go.Proofs.Ybulkdufc
open Go.RowKit Go.Split
open Extern.Stop (cell)
section
variable {ops : Array Oper} {Q : Exit → Act → World → Prop} {rest : List Oper} {op : Oper} {s : Nat → Value} {l : List (Nat × Value)} {w w0 : World} {B : Nat} {L : List Obj}
theorem cL_quiet {id : Nat} {l1 : List Oper} (h : qL Yba.prog l1.toArray (fun w' => ∃ n, w' = w.drewN n) (fun a' => ∀ w', (∃ n, w' = w.drewN n) → Q .normal a' w') l1 s) (hB : Region.lexB .any l1.toArray = true := by kernel_rfl) : cL Yba.prog (.region id l1.toArray true) Q s w := fun a F =>
  wp_region_quiet_lit mixed hB (h a F)
theorem Mem.drews (M : Mem w0 w B L) : ∀ w', (∃ n, w' = w.drewN n) → Mem w0 w' B L := by
  rintro _ ⟨n, rfl⟩; exact M.drewN n
theorem Mem.drew1 (M : Mem w0 w B L) : ∀ w', w' = w.drew → Mem w0 w' B L := by
  rintro _ rfl; exact M.drew
theorem q_done {C : World → Prop} (hC : ∀ w', C w' → Mem w0 w' B L) (h : ∀ w', Mem w0 w' B L → ∀ a, Fr a s → Q .normal a w') : qL Yba.prog ops C (fun a' => ∀ w', C w' → Q .normal a' w') [] s := q_nil fun a F w' hw' => h w' (hC w' hw') a F
/-- Reads first, then what writes. -/
theorem cL_cut {id : Nat} (pre : List Nat) (t : Nat) (tail : List Nat) (h : qL Yba.prog ops (fun w' => w' = w.drew) (fun a' => wpList Yba.prog ops Q ((t :: tail).filterMap (ops[·]?)) a' w.drew) (pre.filterMap (ops[·]?)) s)
    (hQ : ∀ c (a : Act) d v w, Q (.panic c) (a.put d v) w → Q (.panic c) a w := by intro c a d v w h; cases d <;> exact h)
    (hB : splitB ops pre t tail = true := by kernel_rfl) (hI : ((pre ++ t :: tail).all fun i => decide (i < ops.size)) = true := by kernel_rfl) : cL Yba.prog (.region id ops true) Q s w := fun a F =>
  wp_region_cut mixed pre t tail hB hI hQ (h a F)
theorem q_then {C : World → Prop} {l2 : List Oper} {w' : World} (h : wpL Yba.prog ops Q l2 s w') : qL Yba.prog ops C (fun a' => wpList Yba.prog ops Q l2 a' w') [] s := q_nil h
theorem cL_cutR {id : Nat} (pre mid : List Nat) (t : Nat) (tail : List Nat) (R : World → Prop) (hR : R w.drew)
    (h : tL Yba.prog ops R (fun a' => wpMids Yba.prog ops Q R (fun a'' w'' => wpList Yba.prog ops Q ((t :: tail).filterMap (ops[·]?)) a'' w'') (mid.filterMap (ops[·]?)) a' w.drew) (pre.filterMap (ops[·]?)) s)
    (hQ : ∀ c (a : Act) d v w, Q (.panic c) (a.put d v) w → Q (.panic c) a w := by intro c a d v w h; cases d <;> exact h)
    (hB : splitRB ops pre mid t tail = true := by kernel_rfl) (hI : ((pre ++ mid ++ t :: tail).all fun i => decide (i < ops.size)) = true := by kernel_rfl) : cL Yba.prog (.region id ops true) Q s w := fun a F =>
  wp_region_cutR mixed pre mid t tail hB hI hQ R hR (h a F)
/-- One operation of 'pre' under a condition. -/
theorem t_runR {C : World → Prop} {R : Act → Prop} (d : Nat) (v : Value) (hrun : ∀ w', C w' → (execOp (ev (look l s)) op).run Yba.prog w' = .ok (.value v) w') (h : tL Yba.prog ops C R rest (look ((d, v) :: l) s))
    (hw : Region.wanted op (yl ops (look l s)) = true := by rfl) (hd : op.dst = some d := by rfl) (hlt : d < 467 := by decide) : tL Yba.prog ops C R (op :: rest) (look l s) := fun a F =>
  wt_run _ rfl (by rw [F.yielded]; exact hw) v (fun w1 h1 => by rw [F.ev]; exact hrun w1 h1) (by rw [hd]; exact h _ (F.put d v hlt))
theorem mids_nil {R : World → Prop} {K : Act → World → Prop} (h : ∀ a, Fr a s → K a w) (a : Act) (F : Fr a s) : wpMids Yba.prog ops Q R K [] a w := h a F
theorem mids_cons {R : World → Prop} {K : Act → World → Prop} {o : Oper} {r : List Oper} (h : wpL Yba.prog ops (midQ Q R (wpMids Yba.prog ops Q R K r)) [o] s w) (a : Act) (F : Fr a s) : wpMids Yba.prog ops Q R K (o :: r) a w := h a F
theorem mid_nil {R : World → Prop} {K : Act → World → Prop} (hR : R w) (h : ∀ a, Fr a s → K a w) : wpL Yba.prog ops (midQ Q R K) [] s w := L_nil fun a F => ⟨hR, h a F⟩
theorem ld_sid (M : Mem w0 w B L) {j : Nat} {x : UInt8} (hb : L[j]? = some (.cells (kc (sid x)) 63 (0, 0))) : (Instr.loadAt 63 (.pointer (some ⟨B + j, 0, none⟩))).run Yba.prog w = .ok (.agg (kc (sid x))) w := by
  have hsz : (kc (sid x)).size = 16 := by simp [kc, sid]
  have h2 : w.rangeAt (B + j) 0 (kc (sid x)).toList := by
    have := World.rangeAt_of_block (M.get hb) 0 16
    rwa [show (kc (sid x)).extract 0 (0 + 16) = kc (sid x) from by rw [Nat.zero_add, ← hsz, Array.extract_size]] at this
  have := run_loadAt_mid (P := Yba.prog) w (B + j) 0 63 (kc (sid x)).toList _ h2 Yba.underlying63 rfl (by rw [size63]; simp [kc, sid])
  simpa using this
end
theorem sid_set1 : (kc (sid 0)).setIfInBounds 0 (.int .u8 1) = kc (sid 1) := by kernel_rfl
theorem sid_set2 : (kc (sid 0)).setIfInBounds 0 (.int .u8 2) = kc (sid 2) := by kernel_rfl
theorem built31 : Yba.prog.built 31 [] = some #[] := by kernel_rfl
/-! ### the memory of the function -/
def em : Obj := .map #[] 0
def pa (B j : Nat) : Value := .pointer (some ⟨B + j, 0, none⟩)
/-- From the table's maps to the records; what follows. -/
def LB (B : Nat) (CO X1 X2 SS CN CS DS : Obj) (CT CC CD : Array Value) (pc pu : Option Addr) (T : List Obj) : List Obj :=
  CO :: X1 :: X2 :: SS :: CN :: em :: em :: em :: .cells CT 44 (0, 0) :: CS :: .cells CC 57 (0, 0) :: DS :: .cells CD 57 (0, 0) :: .cells #[.pointer pc, .pointer pu] 60 (0, 0) :: .cells #[pa B 12, .pointer none] 60 (0, 0) :: T
def LA (CT CC CD : Array Value) (pc pu : Option Addr) : List Obj :=
  [em, em, em, em, em, em, em, em, .cells CT 44 (0, 0), em, .cells CC 57 (0, 0), em, .cells CD 57 (0, 0), .cells #[.pointer pc, .pointer pu] 60 (0, 0)]
def cc (B : Nat) : Option Addr := some ⟨B + 10, 0, none⟩
def dd (B : Nat) (ot : Bool) : Option Addr := bif ot then some ⟨B + 12, 0, none⟩ else none
/-- c's place among its owner's records, before and after. -/
def Way (B : Nat) (k : Int) (ot : Bool) (pc pu pc1 pu1 : Option Addr) (kept : Bool) : Prop :=
  (k = 0 ∧ pc = cc B ∧ pu = dd B ot ∧ pc1 = none ∧ pu1 = dd B ot ∧ kept = ot) ∨ (k = 1 ∧ pc = dd B ot ∧ pu = cc B ∧ pc1 = dd B ot ∧ pu1 = none ∧ kept = ot) ∨
  (k = 2 ∧ pc = dd B ot ∧ pu = none ∧ pc1 = dd B ot ∧ pu1 = none ∧ kept = ot) ∨ (k = 3 ∧ pc = cc B ∧ pu = cc B ∧ pc1 = none ∧ pu1 = cc B ∧ kept = true)
/-- The map of clients, before and after. -/
def CWay (B : Nat) (id r : Int) (CO CO1 : Obj) : Prop :=
  (r = 0 ∧ CO = .map #[] 0 ∧ CO1 = .map #[] 0) ∨ (r = 1 ∧ CO = .map #[ent (.int .u64 id) (pa B 10) 0] 1 ∧ CO1 = .map #[] 1) ∨ (r = 2 ∧ CO = .map #[ent (.int .u64 id) (pa B 12) 0] 1 ∧ CO1 = CO)
theorem CWay.clis {B : Nat} {id r : Int} {CO CO1 : Obj} (h : CWay B id r CO CO1) : Clis B id CO CO1 := by
  rcases h with ⟨_, h1, h2⟩ | ⟨_, h1, h2⟩ | ⟨_, h1, h2⟩
  · exact .inl ⟨h1, h2⟩
  · exact .inr (.inl ⟨h1, h2⟩)
  · exact .inr (.inr ⟨h1, h2⟩)
def mineE (B : Nat) (ow ow2 : ByteArray) (st : Bool) : Array MapEntry := bif st then #[ent (.string ow) (pa B 13) 0, ent (.string ow2) (pa B 15) 1] else #[ent (.string ow) (pa B 13) 0]
def mineM (B : Nat) (ow ow2 : ByteArray) (st : Bool) : Obj := .map (mineE B ow ow2 st) (bif st then 2 else 1)
def theirM (B : Nat) (ow : ByteArray) : Obj := .map #[ent (.string ow) (pa B 14) 0] 1
def X1 (B : Nat) (ow ow2 : ByteArray) (m0 st : Bool) : Obj := bif m0 then theirM B ow else mineM B ow ow2 st
def X2 (B : Nat) (ow ow2 : ByteArray) (m0 st : Bool) : Obj := bif m0 then mineM B ow ow2 st else theirM B ow
/-- Where the first SessionID lies. -/
def nn (st : Bool) : Nat := bif st then 16 else 15
/-- The sessions of the one connection, in the order that was drawn. -/
def innE (sw : Bool) : Array MapEntry := bif sw then #[ent (.agg (kc (sid 2))) (.agg #[]) 0, ent (.agg (kc (sid 1))) (.agg #[]) 1] else #[ent (.agg (kc (sid 1))) (.agg #[]) 0, ent (.agg (kc (sid 2))) (.agg #[]) 1]
def STl (B : Nat) (st : Bool) : List Obj := bif st then [.cells #[.pointer none, pa B 12] 60 (0, 0)] else []
end Go.Proofs.Ybulkdufc
