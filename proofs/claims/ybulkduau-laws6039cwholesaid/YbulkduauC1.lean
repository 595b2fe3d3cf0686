/-
  'ring.LawS6039CWhole' where the map is there.
-/
import Derived.Test.YbulkduauC0
namespace Go.Proofs.Ybulkduau
open Go.RowKit Go.Split
open Extern.Stop (cell)

/-- The first loop's relation: the two maps are one list. -/
structure InvC (w wr : World) (B k : Nat) (key : List UInt8) (K : Nat → List UInt8) (es : List (List UInt8 × Bool × Nat)) (c : Nat) : Prop where
  below : Below B w wr
  size : wr.heap.size = B + 3 + k
  key : wr.heap[B]? = some (.cells (kc key) 29 (0, 0))
  want : wr.heap[B + 1]? = some (mobj es c)
  m : wr.heap[B + 2]? = some (mobj es c)
  ok : keysOk es
  has : ∀ i, i < k → (fnd (K i) es 0).isSome = true

theorem InvC.next {w wr w1 w2 w3 w4 : World} {B k c : Nat} {key : List UInt8} {K : Nat → List UInt8} {es : List (List UInt8 × Bool × Nat)} {v : Bool} {z : Array Value} (I : InvC w wr B k key K es c) (hk : (K k).length = 20)
    (u1 : Upd wr w1 (B + 3 + k) (.cells z 29 (0, 0))) (u2 : Upd w1 w2 (B + 3 + k) (.cells (kc (K k)) 29 (0, 0)))
    (u3 : Upd w2 w3 (B + 2) (mobj (mset (K k) v c es) (mclock (K k) c es))) (u4 : Upd w3 w4 (B + 1) (mobj (mset (K k) v c es) (mclock (K k) c es))) :
    InvC w w4 B (k + 1) key K (mset (K k) v c es) (mclock (K k) c es) := by
  have h1 := u1.size; have h2 := u2.size; have h3 := u3.size; have h4 := u4.size; have hs := I.size
  refine ⟨?_, by omega, u4.keep (by omega) (u3.keep (by omega) (u2.keep (by omega) (u1.keep (by omega) I.key))), u4.here, u4.keep (by omega) u3.here, keysOk_mset hk I.ok, ?_⟩
  · exact (((I.below.trans (u1.below (by omega))).trans (u2.below (by omega))).trans (u3.below (by omega))).trans (u4.below (by omega))
  · intro i hi
    by_cases e : i = k
    · subst e; obtain ⟨j, hj⟩ := fnd_mset (K i) v c es 0; simp [hj]
    · exact fnd_mset_keep _ _ _ _ _ _ (I.has i (by omega))
theorem c1_val {w wr w1 w2 : World} {B k b2 o : Nat} {key : List UInt8} {K : Nat → List UInt8} {es : List (List UInt8 × Bool × Nat)} {c : Nat} {o1 o2 : Obj} {v : Value} (I : InvC w wr B k key K es c) (u1 : Upd wr w1 (B + 3 + k) o1) (u2 : Upd w1 w2 (B + 3 + k) o2)
    (hb : b2 < B) (h : w.cell? ⟨b2, o, none⟩ = some v) : w2.cell? ⟨b2, o, none⟩ = some v := by
  have := (I.below.trans (u1.below (by omega))).trans (u2.below (by omega))
  exact (this.cell (p := ⟨b2, o, none⟩) hb).trans h
theorem zero29 : (Yba.prog.info? 29).map (·.zero) = some (some (.agg (kc (List.replicate 20 0)))) := by kernel_rfl

theorem c1_mid {w wr w3 w4 w5 w6 w7 : World} {B k c : Nat} {key : List UInt8} {K : Nat → List UInt8} {es : List (List UInt8 × Bool × Nat)} {Z : Array Value} {unc : Int} (I : InvC w wr B k key K es c) (hZ : Z94 Z)
    (u3 : Upd wr w3 (B + 1) (mobj (mset key true c es) (mclock key c es))) (u4 : Upd w3 w4 (B + 3 + k) (.cells Z 94 (0, 0)))
    (u5 : Upd w4 w5 (B + 3 + k) (.cells (Z.setIfInBounds 129 (.map (some (B + 2)))) 94 (0, 0))) (u6 : Upd w5 w6 (B + 3 + k) (.cells ((Z.setIfInBounds 129 (.map (some (B + 2)))).setIfInBounds 130 (.int .i64 unc)) 94 (0, 0)))
    (u7 : Upd w6 w7 (B + 3 + k) (.cells (((Z.setIfInBounds 129 (.map (some (B + 2)))).setIfInBounds 130 (.int .i64 unc)).setIfInBounds 237 (.bool false)) 94 (0, 0))) :
    ∃ D, T94 D (some (B + 2)) unc false ∧ w7.heap[B + 3 + k]? = some (.cells D 94 (0, 0)) ∧ w7.heap.size = B + 4 + k ∧ w7.heap[B]? = some (.cells (kc key) 29 (0, 0)) ∧ w7.heap[B + 1]? = some (mobj (mset key true c es) (mclock key c es)) ∧ w7.heap[B + 2]? = some (mobj es c) ∧ Below B w w7 := by
  have hs := I.size
  have hw7 : ∀ j, j ≠ B + 3 + k → w7.heap[j]? = w3.heap[j]? := fun j hj => (u7.other j hj).trans ((u6.other j hj).trans ((u5.other j hj).trans (u4.other j hj)))
  refine ⟨_, T94.mk0 hZ (some (B + 2)) unc false, u7.here, ?_, (hw7 B (by omega)).trans (u3.keep (by omega) I.key), (hw7 (B + 1) (by omega)).trans u3.here, (hw7 (B + 2) (by omega)).trans (u3.keep (by omega) I.m), ?_⟩
  · have := u3.size; have := u4.size; have := u5.size; have := u6.size; have := u7.size; omega
  · exact ((((I.below.trans (u3.below (by omega))).trans (u4.below (by omega))).trans (u5.below (by omega))).trans (u6.below (by omega))).trans (u7.below (by omega))
theorem c1_end {w w7 w8 w9 : World} {B k c : Nat} {key : List UInt8} {es : List (List UInt8 × Bool × Nat)} {D Y : Array Value} {unc : Int} (hs7 : w7.heap.size = B + 4 + k) (TT : T94 D (some (B + 2)) unc false) (hT7 : w7.heap[B + 3 + k]? = some (.cells D 94 (0, 0)))
    (hk7 : w7.heap[B]? = some (.cells (kc key) 29 (0, 0))) (hm7 : w7.heap[B + 1]? = some (mobj (mset key true c es) (mclock key c es))) (bel : Below B w w7) (hY : Z109 Y)
    (u8 : Upd w7 w8 (B + 4 + k) (.cells Y 109 (0, 0))) (V : Noted1 w8 w9 (B + 5 + k) (B + 2) c key es) :
    CEnd w w9 B (B + 3 + k) (B + 4 + k) (B + 1) (B + 2) (mclock key c es) key (mset key true c es) unc false D Y ∧ w9.heap.size = B + 6 + k := by
  have h8 := u8.size
  refine ⟨⟨(V.other B (by omega) (by omega)).trans (u8.keep (by omega) hk7), (V.other _ (by omega) (by omega)).trans (u8.keep (by omega) hm7), V.atR, (V.other _ (by omega) (by omega)).trans (u8.keep (by omega) hT7), TT, (V.other _ (by omega) (by omega)).trans u8.here, hY, ?_⟩, by have := V.size; omega⟩
  have b1 := bel.trans (u8.below (B := B) (by omega))
  exact ⟨V.os.trans b1.os, V.tape.trans b1.tape, V.output.trans b1.output, by have := b1.size; have := V.size; omega, fun j hj => (V.other j (by omega) (by omega)).trans (b1.block j hj)⟩
theorem CEnd.upd {w w9 w1 : World} {B T Nd W G c N : Nat} {key : List UInt8} {es : List (List UInt8 × Bool × Nat)} {unc : Int} {nm : Bool} {D Y : Array Value} {o : Obj} (F : CEnd w w9 B T Nd W G c key es unc nm D Y) (u : Upd w9 w1 N o) (hB : B < N) (hT : T < N) (hNd : Nd < N) (hW : W < N) (hG : G < N) : CEnd w w1 B T Nd W G c key es unc nm D Y :=
  ⟨u.keep (by omega) F.key, u.keep (by omega) F.want, u.keep (by omega) F.got, u.keep (by omega) F.tab, F.tt, u.keep (by omega) F.node, F.yy, F.bel.trans (u.below (by omega))⟩

set_option maxRecDepth 100000 in
set_option maxHeartbeats 2000000 in
theorem lawC_map (w : World) (ao av : Option Addr) (n cap nv capv b off b2 off2 B : Nat) (key : List UInt8) (K : Nat → List UInt8) (Vb : Nat → Bool) (unc : Int) (hB : w.heap.size = B) (hkey : key.length = 20) (hn : n ≤ 1048576) (hnv : nv ≤ maxLen)
    (hao : 0 < n → Hid (ao = some ⟨b, off, none⟩)) (hb : 0 < n → b < B) (hK : ∀ i, (K i).length = 20) (hit : ∀ i, i < n → w.rangeAt b (off + i * 20) (kc (K i)).toList)
    (hav : 0 < nv → Hid (av = some ⟨b2, off2, none⟩)) (hb2 : 0 < nv → b2 < B) (hvs : ∀ i, i < nv → w.cell? ⟨b2, off2 + i, none⟩ = some (.bool (Vb i))) :
    Calls Yba.prog 6 #[.bool false, .slice ao n cap, .slice av nv capv, .agg (kc key), .int .i64 unc] w fun e w1 => e = .returned (.bool true) ∧ Below B w w1 := by
  unfold maxLen at hnv
  go_enter Yba.func6, Yba.ntmps6
  go_wp2_with (first
    | (refine at_op (.box 29 (.tmp 3)) rfl ?_; refine wl_box rfl 29 (.tmp 3) rfl (.agg (kc key)) rfl B hB ?_; intro w1 u1)
    | (refine at_op (.makeMap 57 .none) rfl ?_; refine wl_makeMap rfl 57 rfl (B + 1) (u1.size_new hB) ?_; intro w2 u2)
    | (refine at_op (.makeMap 57 .none) rfl ?_; refine wl_makeMap rfl 57 rfl (B + 2) (u2.size_new (u1.size_new hB)) ?_; intro w3 u3))
  have I0 : InvC w w3 B 0 key K [] 0 := by
    have s1 := u1.size; have s2 := u2.size; have s3 := u3.size
    exact ⟨((u1.below (by omega)).trans (u2.below (by omega))).trans (u3.below (by omega)), by omega, u3.keep (by omega) (u2.keep (by omega) u1.here), u3.keep (by omega) u2.here, u3.here, (fun q hq => by cases hq), (fun i hi => by omega)⟩
  clear u1 u2 u3
  go_loopw [34] (fun i wr => ∃ (k : Nat) (es : List (List UInt8 × Bool × Nat)) (c : Nat), k ≤ n ∧ i = .int .i64 k ∧ InvC w wr B k key K es c) (fun i _ => n - (intOf i).toNat)
  case atStart => exact ⟨0, [], 0, Nat.zero_le _, rfl, I0⟩
  case round =>
    obtain ⟨k, es, c, hk, rfl, I⟩ := hrel
    clear I0
    by_cases hlt : k < n
    · have hr := Below.range I.below (hb (by omega)) (hit k hlt)
      have hKk := hK k
      have hss := I.size
      have hsz : (Yba.prog.info? 29).map (·.size) = some (kc (K k)).size := by rw [size29, kc_size, hKk]
      have hsz' : (kc (K k)).size = (kc (List.replicate 20 0)).size := by rw [kc_size, kc_size, hKk]; rfl
      have b1 : (k : Int) < (n : Int) := by omega
      by_cases hv0 : 0 < nv
      · have b2' : (0 : Int) < (nv : Int) := by omega
        go_wp2_with (first
          | (refine at_op (.indexAddr 55 (.tmp 32) (.tmp 34)) rfl ?_; refine wl_index rfl 55 (.tmp 32) (.tmp 34) rfl ao n cap rfl .i64 k rfl b off (hao (by omega)).out hlt 29 20 Yba.underlying55 size29 ?_)
          | (refine at_op (.load 29 (.tmp 37)) rfl ?_; refine wl_load_arr rfl 29 (.tmp 37) rfl b (off + k * 20) (kc (K k)) rfl hr _ Yba.underlying29 rfl hsz ?_)
          | (refine at_op (.alloc 29) rfl ?_; refine wl_alloc rfl 29 rfl _ zero29 (B + 3 + k) hss ?_; intro w1 u1)
          | (refine at_op (.store 29 (.tmp 14) (.tmp 38)) rfl ?_; refine wl_store_row rfl 29 (.tmp 14) (.tmp 38) rfl (B + 3 + k) (kc (K k)) (kc (List.replicate 20 0)) 29 rfl rfl u1.here hsz' hsz (kc_one _) ?_; intro w2 u2)
          | (refine at_op (.indexAddr 56 (.tmp 42) (.tmp 46)) rfl ?_; refine wl_index rfl 56 (.tmp 42) (.tmp 46) rfl av nv capv rfl .i64 (k % nv) rfl b2 off2 (hav hv0).out (Nat.mod_lt _ hv0) 4 1 Yba.underlying56 size4 ?_)
          | (refine at_op (.load 4 (.tmp 47)) rfl ?_; refine wl_load_cell rfl 4 (.tmp 47) rfl b2 (off2 + k % nv * 1) (.bool (Vb (k % nv))) rfl (by rw [Nat.mul_one]; exact c1_val I u1 u2 (hb2 hv0) (hvs _ (Nat.mod_lt _ hv0))) _ Yba.underlying4 rfl ?_)
          | (refine at_op (.load 29 (.tmp 14)) rfl ?_; refine wl_load_agg rfl 29 (.tmp 14) rfl (B + 3 + k) 0 20 (kc (K k)) 29 (0, 0) rfl (by exact u2.here) (by rw [kc_size, hKk]; decide) _ Yba.underlying29 rfl size29 ?_; rw [kc_all _ hKk])
          | (refine at_op (.mapUpdate 57 (.tmp 49) (.tmp 50) (.tmp 51)) rfl ?_; refine wl_mapUpdate rfl (.tmp 49) (.tmp 50) (.tmp 51) rfl (B + 2) (K k) hKk (Vb (k % nv)) rfl rfl rfl c es I.ok (by exact u2.keep (by omega) (u1.keep (by omega) I.m)) ?_; intro w3 u3)
          | (refine at_op (.load 29 (.tmp 14)) rfl ?_; refine wl_load_agg rfl 29 (.tmp 14) rfl (B + 3 + k) 0 20 (kc (K k)) 29 (0, 0) rfl (by exact u3.keep (by omega) u2.here) (by rw [kc_size, hKk]; decide) _ Yba.underlying29 rfl size29 ?_; rw [kc_all _ hKk])
          | (refine at_op (.mapUpdate 57 (.tmp 52) (.tmp 53) (.tmp 54)) rfl ?_; refine wl_mapUpdate rfl (.tmp 52) (.tmp 53) (.tmp 54) rfl (B + 1) (K k) hKk (Vb (k % nv)) rfl rfl rfl c es I.ok (by exact u3.keep (by omega) (u2.keep (by omega) (u1.keep (by omega) I.want))) ?_; intro w4 u4))
        go_roundw
        case rel => exact ⟨k + 1, _, _, by omega, by go_num, I.next hKk u1 u2 u3 u4⟩
        case measure => simp [intOf]; omega
      · have hv1 : nv = 0 := by omega
        subst hv1
        go_wp2_with (first
          | (refine at_op (.indexAddr 55 (.tmp 32) (.tmp 34)) rfl ?_; refine wl_index rfl 55 (.tmp 32) (.tmp 34) rfl ao n cap rfl .i64 k rfl b off (hao (by omega)).out hlt 29 20 Yba.underlying55 size29 ?_)
          | (refine at_op (.load 29 (.tmp 37)) rfl ?_; refine wl_load_arr rfl 29 (.tmp 37) rfl b (off + k * 20) (kc (K k)) rfl hr _ Yba.underlying29 rfl hsz ?_)
          | (refine at_op (.alloc 29) rfl ?_; refine wl_alloc rfl 29 rfl _ zero29 (B + 3 + k) hss ?_; intro w1 u1)
          | (refine at_op (.store 29 (.tmp 14) (.tmp 38)) rfl ?_; refine wl_store_row rfl 29 (.tmp 14) (.tmp 38) rfl (B + 3 + k) (kc (K k)) (kc (List.replicate 20 0)) 29 rfl rfl u1.here hsz' hsz (kc_one _) ?_; intro w2 u2)
          | (refine at_op (.load 29 (.tmp 14)) rfl ?_; refine wl_load_agg rfl 29 (.tmp 14) rfl (B + 3 + k) 0 20 (kc (K k)) 29 (0, 0) rfl (by exact u2.here) (by rw [kc_size, hKk]; decide) _ Yba.underlying29 rfl size29 ?_; rw [kc_all _ hKk])
          | (refine at_op (.mapUpdate 57 (.tmp 49) (.tmp 50) (.tmp 51)) rfl ?_; refine wl_mapUpdate rfl (.tmp 49) (.tmp 50) (.tmp 51) rfl (B + 2) (K k) hKk false rfl rfl rfl c es I.ok (by exact u2.keep (by omega) (u1.keep (by omega) I.m)) ?_; intro w3 u3)
          | (refine at_op (.load 29 (.tmp 14)) rfl ?_; refine wl_load_agg rfl 29 (.tmp 14) rfl (B + 3 + k) 0 20 (kc (K k)) 29 (0, 0) rfl (by exact u3.keep (by omega) u2.here) (by rw [kc_size, hKk]; decide) _ Yba.underlying29 rfl size29 ?_; rw [kc_all _ hKk])
          | (refine at_op (.mapUpdate 57 (.tmp 52) (.tmp 53) (.tmp 54)) rfl ?_; refine wl_mapUpdate rfl (.tmp 52) (.tmp 53) (.tmp 54) rfl (B + 1) (K k) hKk false rfl rfl rfl c es I.ok (by exact u3.keep (by omega) (u2.keep (by omega) (u1.keep (by omega) I.want))) ?_; intro w4 u4))
        go_roundw
        case rel => exact ⟨k + 1, _, _, by omega, by go_num, I.next hKk u1 u2 u3 u4⟩
        case measure => simp [intOf]; omega
    · obtain rfl : k = n := by omega
      obtain ⟨Z, hZ⟩ := z94
      obtain ⟨Y, hY⟩ := z109
      have hs94 := hZ.size
      have hss := I.size
      have hmn : ∀ (w : World) (r : Option Nat), (binOp .eql 57 (.map r) (.map none)).run Yba.prog w = .ok (.bool r.isNone) w := fun w r => run_eql_map_nil w _ _ _ r Yba.underlying57
      have hmq : ∀ (w : World) (r : Option Nat), (binOp .neq 57 (.map r) (.map none)).run Yba.prog w = .ok (.bool !r.isNone) w := fun w r => run_neq_map_nil w _ _ _ r Yba.underlying57
      have hmq2 : ∀ (w : World) (r : Option Nat), (binOp .neq 80 (.map r) (.map none)).run Yba.prog w = .ok (.bool !r.isNone) w := fun w r => run_neq_map_nil w _ _ _ r Yba.underlying80
      go_wp2_with (first
        | (refine at_op (.load 29 (.tmp 8)) rfl ?_; refine wl_load_agg rfl 29 (.tmp 8) rfl B 0 20 (kc key) 29 (0, 0) rfl (by exact I.key) (by rw [kc_size, hkey]; decide) _ Yba.underlying29 rfl size29 ?_; rw [kc_all key hkey])
        | (refine at_op (.mapUpdate 57 (.tmp 56) (.tmp 57) (.const (.bool true))) rfl ?_; refine wl_mapUpdate rfl (.tmp 56) (.tmp 57) (.const (.bool true)) rfl (B + 1) key hkey true rfl rfl rfl c es I.ok I.want ?_; intro w3 u3)
        | (refine at_op (.build 94 #[(0, .const (.int .u8 1)), (1, .const (.bool true))]) rfl ?_; refine wl_build rfl 94 #[(0, .const (.int .u8 1)), (1, .const (.bool true))] rfl [(0, .int .u8 1), (1, .bool true)] Z rfl hZ.built ?_)
        | (refine at_op (.box 94 (.tmp 58)) rfl ?_; refine wl_box rfl 94 (.tmp 58) rfl (.agg Z) rfl (B + 3 + k) (u3.size_old hss (by omega)) ?_; intro w4 u4)
        | (refine at_op (.store 57 (.tmp 64) (.tmp 61)) rfl ?_; refine wl_store1 rfl 57 (.tmp 64) (.tmp 61) rfl (B + 3 + k) 129 (.map (some (B + 2))) Z 94 rfl rfl u4.here (by omega) size57 rfl ?_; intro w5 u5)
        | (refine at_op (.store 3 (.tmp 69) (.tmp 66)) rfl ?_; refine wl_store1 rfl 3 (.tmp 69) (.tmp 66) rfl (B + 3 + k) 130 (.int .i64 unc) (Z.setIfInBounds 129 (.map (some (B + 2)))) 94 rfl rfl u5.here (by simp; omega) size3 rfl ?_; intro w6 u6)
        | (refine at_op (.store 4 (.tmp 74) (.tmp 71)) rfl ?_; refine wl_store1 rfl 4 (.tmp 74) (.tmp 71) rfl (B + 3 + k) 237 (.bool false) ((Z.setIfInBounds 129 (.map (some (B + 2)))).setIfInBounds 130 (.int .i64 unc)) 94 rfl rfl u6.here (by simp; omega) size4 rfl ?_; intro w7 u7)
        | (refine at_op (.build 109 #[]) rfl ?_; obtain ⟨D, TT, hT7, hs7, hk7, hm7, hg7, bel⟩ := c1_mid I hZ u3 u4 u5 u6 u7; clear u3 u4 u5 u6 u7; refine wl_build rfl 109 #[] rfl [] Y rfl hY.built ?_)
        | (refine at_op (.box 109 (.tmp 75)) rfl ?_; refine wl_box rfl 109 (.tmp 75) rfl (.agg Y) rfl (B + 4 + k) hs7 ?_; intro w8 u8)
        | (refine at_op (.load 29 (.tmp 8)) rfl ?_; refine wl_load_agg rfl 29 (.tmp 8) rfl B 0 20 (kc key) 29 (0, 0) rfl (by exact u8.keep (by omega) hk7) (by rw [kc_size, hkey]; decide) _ Yba.underlying29 rfl size29 ?_; rw [kc_all key hkey])
        | (go_at_call 13; refine (note_there w8 (B + 4 + k) (B + 3 + k) (B + 2) c (B + 5 + k) key hkey D es I.ok (by have := u8.size; omega) (by exact u8.keep (by omega) hT7) TT.a129 (by exact u8.keep (by omega) hg7)).mono ?_; rintro _ w9 ⟨rfl, V⟩; obtain ⟨F, hs9⟩ := c1_end hs7 TT hT7 hk7 hm7 bel hY u8 V; clear V u8 hT7 hk7 hm7 hg7 bel TT hs7; obtain ⟨f0, f1, f122, f126, f129, f130, f237, f281, g706, g710, g707, g45⟩ := F.cells)
        | (refine wl_lenmap_at rfl (.tmp 89) rfl (B + 2) rfl _ _ F.got ?_)
        | (refine wl_lenmap_at rfl (.tmp 91) rfl (B + 1) rfl _ _ F.want ?_)
        | (refine at_op (.load 29 (.tmp 8)) rfl ?_; refine wl_load_agg rfl 29 (.tmp 8) rfl B 0 20 (kc key) 29 (0, 0) rfl F.key (by rw [kc_size, hkey]; decide) _ Yba.underlying29 rfl size29 ?_; rw [kc_all key hkey])
        | (refine at_op (.lookup 57 (.tmp 96) (.tmp 97) true) rfl ?_; refine wl_lookup rfl (.tmp 96) (.tmp 97) true rfl (B + 2) key hkey rfl rfl _ _ (keysOk_mset hkey I.ok) F.got (.tuple #[.bool true, .bool true]) (look_true key true c es) ?_))
      have hhas : ∀ i, i < k → (fnd (K i) (mset key true c es) 0).isSome = true := fun i hi => fnd_mset_keep _ _ _ _ _ _ (I.has i hi)
      have hok := keysOk_mset (v := true) (c := c) hkey I.ok
      have hit2 : ∀ i, i < k → w.rangeAt b (off + i * 20) (kc (K i)).toList := hit
      have hF0 := F
      clear f0 f1 f122 f126 f129 f130 f237 f281 g706 g710 g707 g45 F I hit hvs hav hb2
      go_loopw [111] (fun i wr => ∃ m : Nat, m ≤ k ∧ i = .int .i64 m ∧ CEnd w wr B (B + 3 + k) (B + 4 + k) (B + 1) (B + 2) (mclock key c es) key (mset key true c es) unc false D Y ∧ B + 6 + k ≤ wr.heap.size) (fun i _ => k - (intOf i).toNat)
      case atStart => exact ⟨0, Nat.zero_le _, rfl, hF0, by omega⟩
      case round =>
        obtain ⟨m, hm, rfl, F, hsz9⟩ := hrel
        clear hF0 hs9
        by_cases hlt2 : m < k
        · obtain ⟨⟨j, vb⟩, hf⟩ := Option.isSome_iff_exists.1 (hhas m hlt2)
          have hr := Below.range F.bel (hb (by omega)) (hit2 m hlt2)
          have hKm := hK m
          obtain ⟨N, hN⟩ : ∃ N, wr.heap.size = N := ⟨_, rfl⟩
          have hNb : B + 6 + k ≤ N := by omega
          have hsz : (Yba.prog.info? 29).map (·.size) = some (kc (K m)).size := by rw [size29, kc_size, hKm]
          have hsz' : (kc (K m)).size = (kc (List.replicate 20 0)).size := by rw [kc_size, kc_size, hKm]; rfl
          have lt1 : (if true then Value.tuple #[.bool (((fnd (K m) (mset key true c es) 0).map (·.2)).getD false), .bool (fnd (K m) (mset key true c es) 0).isSome] else .bool (((fnd (K m) (mset key true c es) 0).map (·.2)).getD false)) = .tuple #[.bool vb, .bool true] := by rw [hf]; rfl
          have lt2 : (if false then Value.tuple #[.bool (((fnd (K m) (mset key true c es) 0).map (·.2)).getD false), .bool (fnd (K m) (mset key true c es) 0).isSome] else .bool (((fnd (K m) (mset key true c es) 0).map (·.2)).getD false)) = .bool vb := by rw [hf]; rfl
          have LT1 := (show Hid _ from lt1)
          have LT2 := (show Hid _ from lt2)
          have b1 : (m : Int) < (k : Int) := by omega
          clear lt1 lt2 hf hsz9
          go_wp2_with (first
            | (refine at_op (.indexAddr 55 (.tmp 109) (.tmp 111)) rfl ?_; refine wl_index rfl 55 (.tmp 109) (.tmp 111) rfl ao k cap rfl .i64 m rfl b off (hao (by omega)).out hlt2 29 20 Yba.underlying55 size29 ?_)
            | (refine at_op (.load 29 (.tmp 113)) rfl ?_; refine wl_load_arr rfl 29 (.tmp 113) rfl b (off + m * 20) (kc (K m)) rfl hr _ Yba.underlying29 rfl hsz ?_)
            | (refine at_op (.alloc 29) rfl ?_; refine wl_alloc rfl 29 rfl _ zero29 N hN ?_; intro w1 u1)
            | (refine at_op (.store 29 (.tmp 22) (.tmp 114)) rfl ?_; refine wl_store_row rfl 29 (.tmp 22) (.tmp 114) rfl N (kc (K m)) (kc (List.replicate 20 0)) 29 rfl rfl u1.here hsz' hsz (kc_one _) ?_; intro w2 u2; have F2 := (F.upd u1 (by omega) (by omega) (by omega) (by omega) (by omega)).upd u2 (by omega) (by omega) (by omega) (by omega) (by omega))
            | (refine unguard rfl ?_; refine at_op (.load 29 (.tmp 22)) rfl ?_; refine wl_load_agg rfl 29 (.tmp 22) rfl N 0 20 (kc (K m)) 29 (0, 0) rfl u2.here (by rw [kc_size, hKm]; decide) _ Yba.underlying29 rfl size29 ?_; rw [kc_all _ hKm])
            | (refine at_op (.lookup 57 (.tmp 116) (.tmp 117) true) rfl ?_; refine wl_lookup rfl (.tmp 116) (.tmp 117) true rfl (B + 2) (K m) hKm rfl rfl _ _ hok F2.got (.tuple #[.bool vb, .bool true]) LT1.out ?_)
            | (refine unguard rfl ?_; refine at_op (.lookup 57 (.tmp 125) (.tmp 126) false) rfl ?_; refine wl_lookup rfl (.tmp 125) (.tmp 126) false rfl (B + 1) (K m) hKm rfl rfl _ _ hok F2.want (.bool vb) LT2.out ?_))
          go_roundw
          case rel => exact ⟨m + 1, by omega, by go_num, F2, by have := u1.size; have := u2.size; omega⟩
          case measure => simp [intOf]; omega
        · obtain rfl : m = k := by omega
          obtain ⟨f0, f1, f122, f126, f129, f130, f237, f281, g706, g710, g707, g45⟩ := F.cells
          go_wp2_with (first
            | (refine wl_lenmap_at rfl (.tmp 131) rfl (B + 2) rfl _ _ F.got ?_)
            | (refine wl_lenmap_at rfl (.tmp 133) rfl (B + 1) rfl _ _ F.want ?_)
            | (refine unguard rfl ?_; refine at_op (.load 29 (.tmp 8)) rfl ?_; refine wl_load_agg rfl 29 (.tmp 8) rfl B 0 20 (kc key) 29 (0, 0) rfl F.key (by rw [kc_size, hkey]; decide) _ Yba.underlying29 rfl size29 ?_; rw [kc_all key hkey])
            | (refine unguard rfl ?_; refine at_op (.lookup 57 (.tmp 137) (.tmp 138) false) rfl ?_; refine wl_lookup rfl (.tmp 137) (.tmp 138) false rfl (B + 2) key hkey rfl rfl _ _ hok F.got (.bool true) (look_false key true c es) ?_))
          go_ret
          exact ⟨rfl, F.bel⟩
end Go.Proofs.Ybulkduau
