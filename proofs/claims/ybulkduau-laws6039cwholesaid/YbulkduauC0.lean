/-
  'ring.LawS6039CWhole' where the map is nil.
-/
import Derived.Test.YbulkduauNote
namespace Go.Proofs.Ybulkduau
open Go.RowKit Go.Split
open Extern.Stop (cell)
theorem size4 : (Yba.prog.info? 4).map (·.size) = some 1 := by kernel_rfl
theorem z94a : (Yba.prog.built 94 [(0, .int .u8 1), (1, .bool true)]).map (fun Z => (Z.size, Z[0]?, Z[1]?, Z[122]?, Z[126]?, Z[129]?, Z[281]?)) = some (284, some (.int .u8 1), some (.bool true), some (.map .none), some (.map .none), some (.map .none), some (.map .none)) := by kernel_rfl
theorem z109a : (Yba.prog.built 109 []).map (fun Z => (Z[706]?, Z[710]?, Z[707]?, Z[45]?)) = some (some (.int .u64 0), some (.int .u64 0), some (.int .u64 0), some (.int .i64 0)) := by kernel_rfl
/-- The table as the literal lays it. -/
structure Z94 (Z : Array Value) : Prop where
  built : Yba.prog.built 94 [(0, .int .u8 1), (1, .bool true)] = some Z
  size : Z.size = 284
  a0 : Z[0]? = some (.int .u8 1)
  a1 : Z[1]? = some (.bool true)
  a122 : Z[122]? = some (.map .none)
  a126 : Z[126]? = some (.map .none)
  a129 : Z[129]? = some (.map .none)
  a281 : Z[281]? = some (.map .none)
theorem z94 : ∃ Z, Z94 Z := by
  obtain ⟨Z, h1, h2⟩ := Option.map_eq_some_iff.1 z94a
  simp only [Prod.mk.injEq] at h2
  exact ⟨Z, h1, h2.1, h2.2.1, h2.2.2.1, h2.2.2.2.1, h2.2.2.2.2.1, h2.2.2.2.2.2.1, h2.2.2.2.2.2.2⟩
/-- The node as the empty literal lays it. -/
structure Z109 (Z : Array Value) : Prop where
  built : Yba.prog.built 109 [] = some Z
  a706 : Z[706]? = some (.int .u64 0)
  a710 : Z[710]? = some (.int .u64 0)
  a707 : Z[707]? = some (.int .u64 0)
  a45 : Z[45]? = some (.int .i64 0)
theorem z109 : ∃ Z, Z109 Z := by
  obtain ⟨Z, h1, h2⟩ := Option.map_eq_some_iff.1 z109a
  simp only [Prod.mk.injEq] at h2
  exact ⟨Z, h1, h2.1, h2.2.1, h2.2.2.1, h2.2.2.2⟩
theorem run_lenmap2 (w : World) (r c : Nat) (es : List (List UInt8 × Bool × Nat)) (hr : w.heap[r]? = some (mobj es c)) (ty : TypeId) :
    (Builtin.len_ #[57] ty #[.map (some r)]).run Yba.prog w = .ok (.int .i64 es.length) w := run_lenmap ty w r c es hr

/-- What the table holds at the end. -/
structure T94 (D : Array Value) (m : Option Nat) (unc : Int) (nm : Bool) : Prop where
  a0 : D[0]? = some (.int .u8 1)
  a1 : D[1]? = some (.bool true)
  a122 : D[122]? = some (.map .none)
  a126 : D[126]? = some (.map .none)
  a129 : D[129]? = some (.map m)
  a130 : D[130]? = some (.int .i64 unc)
  a237 : D[237]? = some (.bool nm)
  a281 : D[281]? = some (.map .none)
  size : D.size = 284
theorem setNe {D : Array Value} {i j : Nat} {x v : Value} (h : i ≠ j) (e : D[j]? = some v) : (D.setIfInBounds i x)[j]? = some v := by rw [Array.getElem?_setIfInBounds_ne h]; exact e
theorem setEq {D : Array Value} {i : Nat} {x : Value} (h : i < D.size) : (D.setIfInBounds i x)[i]? = some x := by simp [h]
theorem T94.mk0 {Z : Array Value} (h : Z94 Z) (m : Option Nat) (unc : Int) (nm : Bool) : T94 (((Z.setIfInBounds 129 (.map m)).setIfInBounds 130 (.int .i64 unc)).setIfInBounds 237 (.bool nm)) m unc nm := by
  have hs := h.size
  have far : ∀ (j : Nat) (v : Value), 129 ≠ j → 130 ≠ j → 237 ≠ j → Z[j]? = some v → (((Z.setIfInBounds 129 (.map m)).setIfInBounds 130 (.int .i64 unc)).setIfInBounds 237 (.bool nm))[j]? = some v := fun j v h1 h2 h3 e => setNe h3 (setNe h2 (setNe h1 e))
  exact ⟨far _ _ (by decide) (by decide) (by decide) h.a0, far _ _ (by decide) (by decide) (by decide) h.a1, far _ _ (by decide) (by decide) (by decide) h.a122, far _ _ (by decide) (by decide) (by decide) h.a126,
    setNe (by decide) (setNe (by decide) (setEq (by omega))), setNe (by decide) (setEq (by simp; omega)), setEq (by simp; omega), far _ _ (by decide) (by decide) (by decide) h.a281, by simp [hs]⟩
theorem T94.set {D : Array Value} {m : Option Nat} {unc : Int} {nm : Bool} (h : T94 D m unc nm) (m1 : Option Nat) : T94 (D.setIfInBounds 129 (.map m1)) m1 unc nm := by
  have hs := h.size
  exact ⟨setNe (by decide) h.a0, setNe (by decide) h.a1, setNe (by decide) h.a122, setNe (by decide) h.a126, setEq (by omega), setNe (by decide) h.a130, setNe (by decide) h.a237, setNe (by decide) h.a281, by simp [hs]⟩

/-- The state behind the call, in both cases. -/
structure CEnd (w w9 : World) (B T Nd W G c : Nat) (key : List UInt8) (es : List (List UInt8 × Bool × Nat)) (unc : Int) (nm : Bool) (D Y : Array Value) : Prop where
  key : w9.heap[B]? = some (.cells (kc key) 29 (0, 0))
  want : w9.heap[W]? = some (mobj es c)
  got : w9.heap[G]? = some (mobj es c)
  tab : w9.heap[T]? = some (.cells D 94 (0, 0))
  tt : T94 D (some G) unc nm
  node : w9.heap[Nd]? = some (.cells Y 109 (0, 0))
  yy : Z109 Y
  bel : Below B w w9
structure CCells (w9 : World) (T Nd G : Nat) (unc : Int) (nm : Bool) : Prop where
  f0 : w9.cell? ⟨T, 0, none⟩ = some (.int .u8 1)
  f1 : w9.cell? ⟨T, 1, none⟩ = some (.bool true)
  f122 : w9.cell? ⟨T, 122, none⟩ = some (.map .none)
  f126 : w9.cell? ⟨T, 126, none⟩ = some (.map .none)
  f129 : w9.cell? ⟨T, 129, none⟩ = some (.map (some G))
  f130 : w9.cell? ⟨T, 130, none⟩ = some (.int .i64 unc)
  f237 : w9.cell? ⟨T, 237, none⟩ = some (.bool nm)
  f281 : w9.cell? ⟨T, 281, none⟩ = some (.map .none)
  g706 : w9.cell? ⟨Nd, 706, none⟩ = some (.int .u64 0)
  g710 : w9.cell? ⟨Nd, 710, none⟩ = some (.int .u64 0)
  g707 : w9.cell? ⟨Nd, 707, none⟩ = some (.int .u64 0)
  g45 : w9.cell? ⟨Nd, 45, none⟩ = some (.int .i64 0)
theorem CEnd.cells {w w9 : World} {B T Nd W G c : Nat} {key : List UInt8} {es : List (List UInt8 × Bool × Nat)} {unc : Int} {nm : Bool} {D Y : Array Value} (F : CEnd w w9 B T Nd W G c key es unc nm D Y) : CCells w9 T Nd G unc nm :=
  ⟨(cell_of_row w9 T _ _ _ _ F.tab).trans F.tt.a0, (cell_of_row w9 T _ _ _ _ F.tab).trans F.tt.a1, (cell_of_row w9 T _ _ _ _ F.tab).trans F.tt.a122, (cell_of_row w9 T _ _ _ _ F.tab).trans F.tt.a126, (cell_of_row w9 T _ _ _ _ F.tab).trans F.tt.a129,
    (cell_of_row w9 T _ _ _ _ F.tab).trans F.tt.a130, (cell_of_row w9 T _ _ _ _ F.tab).trans F.tt.a237, (cell_of_row w9 T _ _ _ _ F.tab).trans F.tt.a281,
    (cell_of_row w9 Nd _ _ _ _ F.node).trans F.yy.a706, (cell_of_row w9 Nd _ _ _ _ F.node).trans F.yy.a710, (cell_of_row w9 Nd _ _ _ _ F.node).trans F.yy.a707, (cell_of_row w9 Nd _ _ _ _ F.node).trans F.yy.a45⟩
theorem c0_end {w w7 w8 w9 : World} {B : Nat} {key : List UInt8} {D Y : Array Value} {unc : Int} (hs7 : w7.heap.size = B + 3) (TT : T94 D .none unc true)
    (hk7 : w7.heap[B]? = some (.cells (kc key) 29 (0, 0))) (hm7 : w7.heap[B + 1]? = some (mobj (mset key true 0 []) 1)) (bel : Below B w w7) (hY : Z109 Y)
    (u8 : Upd w7 w8 (B + 3) (.cells Y 109 (0, 0))) (V : Noted0 w8 w9 (B + 2) (B + 4) key D) : ∃ D9, CEnd w w9 B (B + 2) (B + 3) (B + 1) (B + 5) 1 key (mset key true 0 []) unc true D9 Y := by
  have h8 := u8.size
  refine ⟨_, (V.other B (by omega) (by omega)).trans (u8.keep (by omega) hk7), (V.other _ (by omega) (by omega)).trans (u8.keep (by omega) hm7), V.atM, V.atT, TT.set _, (V.other _ (by omega) (by omega)).trans u8.here, hY, ?_⟩
  have b1 := bel.trans (u8.below (B := B) (by omega))
  exact ⟨V.os.trans b1.os, V.tape.trans b1.tape, V.output.trans b1.output, by have := b1.size; have := V.size; omega, fun k hk => (V.other k (by omega) (by omega)).trans (b1.block k hk)⟩
theorem wl_lenmap_at {ops : Array Oper} {rest : List Oper} {op : Oper} {a : Act} {w : World} {Q : Exit → Act → World → Prop} (hw : Region.wanted op (yielded ops a.tmps) = true) (m : Operand) (ho : op.op = .call { callee := .builtin .len, args := #[m], argTypes := #[57] }) (r : Nat) (hm : a.eval m = .map (some r))
    (c : Nat) (es : List (List UInt8 × Bool × Nat)) (hr : w.heap[r]? = some (mobj es c))
    (h : wpList Yba.prog ops Q rest (a.put op.dst (.int .i64 es.length)) w) : wpList Yba.prog ops Q (op :: rest) a w :=
  unguard hw (wl_lenmap rfl m ho r hm c es hr h)

theorem look_true (key : List UInt8) (v : Bool) (c : Nat) (es : List (List UInt8 × Bool × Nat)) :
    (if true then Value.tuple #[.bool (((fnd key (mset key v c es) 0).map (·.2)).getD false), .bool (fnd key (mset key v c es) 0).isSome] else .bool (((fnd key (mset key v c es) 0).map (·.2)).getD false)) = .tuple #[.bool v, .bool true] := by
  obtain ⟨j, hj⟩ := fnd_mset key v c es 0
  simp [hj]
theorem look_false (key : List UInt8) (v : Bool) (c : Nat) (es : List (List UInt8 × Bool × Nat)) :
    (if false then Value.tuple #[.bool (((fnd key (mset key v c es) 0).map (·.2)).getD false), .bool (fnd key (mset key v c es) 0).isSome] else .bool (((fnd key (mset key v c es) 0).map (·.2)).getD false)) = .bool v := by
  obtain ⟨j, hj⟩ := fnd_mset key v c es 0
  simp [hj]

theorem c0_mid {w w1 w2 w3 w4 w5 w6 w7 : World} {B : Nat} {key : List UInt8} {Z : Array Value} {unc : Int} (hB : w.heap.size = B) (hZ : Z94 Z)
    (u1 : Upd w w1 B (.cells (kc key) 29 (0, 0))) (u2 : Upd w1 w2 (B + 1) (mobj [] 0)) (u3 : Upd w2 w3 (B + 1) (mobj (mset key true 0 []) (mclock key 0 []))) (u4 : Upd w3 w4 (B + 2) (.cells Z 94 (0, 0)))
    (u5 : Upd w4 w5 (B + 2) (.cells (Z.setIfInBounds 129 (.map .none)) 94 (0, 0))) (u6 : Upd w5 w6 (B + 2) (.cells ((Z.setIfInBounds 129 (.map .none)).setIfInBounds 130 (.int .i64 unc)) 94 (0, 0)))
    (u7 : Upd w6 w7 (B + 2) (.cells (((Z.setIfInBounds 129 (.map .none)).setIfInBounds 130 (.int .i64 unc)).setIfInBounds 237 (.bool true)) 94 (0, 0))) :
    ∃ D, T94 D .none unc true ∧ w7.heap[B + 2]? = some (.cells D 94 (0, 0)) ∧ w7.heap.size = B + 3 ∧ w7.heap[B]? = some (.cells (kc key) 29 (0, 0)) ∧ w7.heap[B + 1]? = some (mobj (mset key true 0 []) 1) ∧ Below B w w7 := by
  have hw7 : ∀ k, k ≠ B + 2 → w7.heap[k]? = w3.heap[k]? := fun k hk => (u7.other k hk).trans ((u6.other k hk).trans ((u5.other k hk).trans (u4.other k hk)))
  refine ⟨_, T94.mk0 hZ .none unc true, u7.here, ?_, (hw7 B (by omega)).trans (u3.keep (by omega) (u2.keep (by omega) u1.here)), (hw7 (B + 1) (by omega)).trans u3.here, ?_⟩
  · have := u1.size; have := u2.size; have := u3.size; have := u4.size; have := u5.size; have := u6.size; have := u7.size; omega
  · exact ((((((u1.below (by omega)).trans (u2.below (by omega))).trans (u3.below (by omega))).trans (u4.below (by omega))).trans (u5.below (by omega))).trans (u6.below (by omega))).trans (u7.below (by omega))

set_option maxRecDepth 100000 in
set_option maxHeartbeats 2000000 in
theorem lawC_nil (w : World) (ao av : Option Addr) (n cap nv capv B : Nat) (key : List UInt8) (unc : Int) (hB : w.heap.size = B) (hkey : key.length = 20) (hn : n ≤ 1048576) :
    Calls Yba.prog 6 #[.bool true, .slice ao n cap, .slice av nv capv, .agg (kc key), .int .i64 unc] w fun e w1 => e = .returned (.bool true) ∧ Below B w w1 := by
  obtain ⟨Z, hZ⟩ := z94
  obtain ⟨Y, hY⟩ := z109
  have hs94 := hZ.size
  have hmn : ∀ (w : World) (r : Option Nat), (binOp .eql 57 (.map r) (.map none)).run Yba.prog w = .ok (.bool r.isNone) w := fun w r => run_eql_map_nil w _ _ _ r Yba.underlying57
  have hmq : ∀ (w : World) (r : Option Nat), (binOp .neq 57 (.map r) (.map none)).run Yba.prog w = .ok (.bool !r.isNone) w := fun w r => run_neq_map_nil w _ _ _ r Yba.underlying57
  have hmq2 : ∀ (w : World) (r : Option Nat), (binOp .neq 80 (.map r) (.map none)).run Yba.prog w = .ok (.bool !r.isNone) w := fun w r => run_neq_map_nil w _ _ _ r Yba.underlying80
  go_enter Yba.func6, Yba.ntmps6
  go_wp2_with (first
    | (refine at_op (.box 29 (.tmp 3)) rfl ?_; refine wl_box rfl 29 (.tmp 3) rfl (.agg (kc key)) rfl B hB ?_; intro w1 u1)
    | (refine at_op (.makeMap 57 .none) rfl ?_; refine wl_makeMap rfl 57 rfl (B + 1) (u1.size_new hB) ?_; intro w2 u2)
    | (refine at_op (.load 29 (.tmp 8)) rfl ?_; refine wl_load_agg rfl 29 (.tmp 8) rfl B 0 20 (kc key) 29 (0, 0) rfl (by exact u2.keep (by omega) u1.here) (by rw [kc_size, hkey]; decide) _ Yba.underlying29 rfl size29 ?_; rw [kc_all key hkey])
    | (refine at_op (.mapUpdate 57 (.tmp 56) (.tmp 57) (.const (.bool true))) rfl ?_; refine wl_mapUpdate rfl (.tmp 56) (.tmp 57) (.const (.bool true)) rfl (B + 1) key hkey true rfl rfl rfl 0 [] (fun q hq => by cases hq) u2.here ?_; intro w3 u3)
    | (refine at_op (.build 94 #[(0, .const (.int .u8 1)), (1, .const (.bool true))]) rfl ?_; refine wl_build rfl 94 #[(0, .const (.int .u8 1)), (1, .const (.bool true))] rfl [(0, .int .u8 1), (1, .bool true)] Z rfl hZ.built ?_)
    | (refine at_op (.box 94 (.tmp 58)) rfl ?_; refine wl_box rfl 94 (.tmp 58) rfl (.agg Z) rfl (B + 2) (u3.size_old (u2.size_new (u1.size_new hB)) (by omega)) ?_; intro w4 u4)
    | (refine at_op (.store 57 (.tmp 64) (.tmp 61)) rfl ?_; refine wl_store1 rfl 57 (.tmp 64) (.tmp 61) rfl (B + 2) 129 (.map .none) Z 94 rfl rfl u4.here (by omega) size57 rfl ?_; intro w5 u5)
    | (refine at_op (.store 3 (.tmp 69) (.tmp 66)) rfl ?_; refine wl_store1 rfl 3 (.tmp 69) (.tmp 66) rfl (B + 2) 130 (.int .i64 unc) (Z.setIfInBounds 129 (.map .none)) 94 rfl rfl u5.here (by simp; omega) size3 rfl ?_; intro w6 u6)
    | (refine at_op (.store 4 (.tmp 74) (.tmp 71)) rfl ?_; refine wl_store1 rfl 4 (.tmp 74) (.tmp 71) rfl (B + 2) 237 (.bool true) ((Z.setIfInBounds 129 (.map .none)).setIfInBounds 130 (.int .i64 unc)) 94 rfl rfl u6.here (by simp; omega) size4 rfl ?_; intro w7 u7)
    | (refine at_op (.build 109 #[]) rfl ?_; obtain ⟨D, TT, hT7, hs7, hk7, hm7, bel⟩ := c0_mid hB hZ u1 u2 u3 u4 u5 u6 u7; clear u1 u2 u3 u4 u5 u6 u7; refine wl_build rfl 109 #[] rfl [] Y rfl hY.built ?_)
    | (refine at_op (.box 109 (.tmp 75)) rfl ?_; refine wl_box rfl 109 (.tmp 75) rfl (.agg Y) rfl (B + 3) hs7 ?_; intro w8 u8)
    | (refine at_op (.load 29 (.tmp 8)) rfl ?_; refine wl_load_agg rfl 29 (.tmp 8) rfl B 0 20 (kc key) 29 (0, 0) rfl (by exact u8.keep (by omega) hk7) (by rw [kc_size, hkey]; decide) _ Yba.underlying29 rfl size29 ?_; rw [kc_all key hkey])
    | (go_at_call 13; refine (note_nil w8 (B + 3) (B + 2) (B + 4) key hkey D (u8.size_new hs7) (by exact u8.keep (by omega) hT7) TT.a129).mono ?_; rintro _ w9 ⟨rfl, V⟩; obtain ⟨D9, F⟩ := c0_end hs7 TT hk7 hm7 bel hY u8 V; clear V u8 hT7 hk7 hm7 bel TT; obtain ⟨f0, f1, f122, f126, f129, f130, f237, f281, g706, g710, g707, g45⟩ := F.cells)
    | (refine wl_lenmap_at rfl (.tmp 89) rfl (B + 5) rfl 1 _ F.got ?_)
    | (refine wl_lenmap_at rfl (.tmp 91) rfl (B + 1) rfl 1 _ F.want ?_)
    | (refine at_op (.load 29 (.tmp 8)) rfl ?_; refine wl_load_agg rfl 29 (.tmp 8) rfl B 0 20 (kc key) 29 (0, 0) rfl F.key (by rw [kc_size, hkey]; decide) _ Yba.underlying29 rfl size29 ?_; rw [kc_all key hkey])
    | (refine at_op (.lookup 57 (.tmp 96) (.tmp 97) true) rfl ?_; refine wl_lookup rfl (.tmp 96) (.tmp 97) true rfl (B + 5) key hkey rfl rfl 1 _ (keysOk_mset hkey (fun q hq => by cases hq)) F.got (.tuple #[.bool true, .bool true]) (look_true key true 0 []) ?_))
  go_ret
  exact ⟨rfl, F.bel⟩
end Go.Proofs.Ybulkduau
