import Derived.Test.YbulkduauPush
import Derived.BigQuiet
import Derived.Stop.BytesEq
namespace Go.Proofs.Ybulkduau
open Go.RowKit
open Extern.Stop (cell)

/-- The twenty cells of a [20]byte. -/
def kc (xs : List UInt8) : Array Value := (xs.map cell).toArray
/-- The cells of an item ¦ of a keyEnd. -/
def ic (xs : List UInt8) (e p : Int) : Array Value := (xs.map cell).toArray ++ #[.int .i64 e, .int .i64 p]

theorem kc_size (xs : List UInt8) : (kc xs).size = xs.length := by simp [kc]
theorem ic_size (xs : List UInt8) (e p : Int) : (ic xs e p).size = xs.length + 2 := by simp [ic]
theorem ic_key (xs : List UInt8) (e p : Int) (h : xs.length = 20) : (ic xs e p).extract 0 20 = kc xs := by
  unfold ic kc
  apply Array.ext'
  simp [h]
theorem ic_end (xs : List UInt8) (e p : Int) (h : xs.length = 20) : (ic xs e p)[20]? = some (.int .i64 e) := by
  unfold ic; simp [h]
theorem ic_place (xs : List UInt8) (e p : Int) (h : xs.length = 20) : (ic xs e p)[21]? = some (.int .i64 p) := by
  unfold ic; simp [h]
theorem ic_set (xs : List UInt8) (e p q : Int) (h : xs.length = 20) : (ic xs e p).setIfInBounds 21 (.int .i64 q) = ic xs e q := by
  unfold ic
  apply Array.ext'
  simp [h]
theorem kc_one (xs : List UInt8) : (kc xs).all (·.oneCell') = true := by
  unfold kc; apply all_oneCell_toArray; intro v hv; obtain ⟨x, _, rfl⟩ := List.mem_map.1 hv; rfl
theorem ic_one (xs : List UInt8) (e p : Int) : (ic xs e p).all (·.oneCell') = true := by
  rw [Array.all_eq_true_iff_forall_mem]
  intro v hv
  unfold ic at hv
  simp at hv
  rcases hv with ⟨x, _, rfl⟩ | rfl | rfl <;> rfl
theorem list20 {α : Type} (l : List α) (h : l.length = 20) : ∃ a0 a1 a2 a3 a4 a5 a6 a7 a8 a9 a10 a11 a12 a13 a14 a15 a16 a17 a18 a19, l = [a0, a1, a2, a3, a4, a5, a6, a7, a8, a9, a10, a11, a12, a13, a14, a15, a16, a17, a18, a19] := by
  match l, h with
  | [a0, a1, a2, a3, a4, a5, a6, a7, a8, a9, a10, a11, a12, a13, a14, a15, a16, a17, a18, a19], _ => exact ⟨_, _, _, _, _, _, _, _, _, _, _, _, _, _, _, _, _, _, _, _, rfl⟩
theorem built51 (xs : List UInt8) (e p : Int) (h : xs.length = 20) : Yba.prog.built 51 [(0, .agg (kc xs)), (1, .int .i64 e), (2, .int .i64 p)] = some (ic xs e p) := by
  obtain ⟨a0, a1, a2, a3, a4, a5, a6, a7, a8, a9, a10, a11, a12, a13, a14, a15, a16, a17, a18, a19, rfl⟩ := list20 xs h
  kernel_rfl
theorem eq_key (xs : List UInt8) (h : xs.length = 20) (w : World) : (Op.equalIn 10000 30 (.agg (kc xs)) (.agg (kc xs))).run Yba.prog w = .ok true w := by
  have := run_equalIn_bytes (P := Yba.prog) w 9998 30 5 20 Yba.underlying30 Yba.underlying5 (fun w => by kernel_rfl) xs xs h h
  unfold kc
  rw [this]; simp
theorem guard30 : Yba.prog.eqGuardType Yba.prog.depth 30 = false := by kernel_rfl
theorem size48 : (Yba.prog.info? 48).map (·.size) = some 22 := by kernel_rfl
theorem size49 : (Yba.prog.info? 49).map (·.size) = some 1 := by kernel_rfl
theorem size29 : (Yba.prog.info? 29).map (·.size) = some 20 := by kernel_rfl
theorem size30 : (Yba.prog.info? 30).map (·.size) = some 20 := by kernel_rfl
theorem zero48 : (Yba.prog.info? 48).map (·.zero) = some (some (.agg (ic (List.replicate 20 0) 0 0))) := by kernel_rfl
theorem zero46 : (Yba.prog.info? 46).map (·.zero) = some (some (.slice none 0 0)) := by kernel_rfl

/-- The first loop's relation. -/
structure Inv1 (w wr : World) (B n k : Nat) (key : List UInt8) (X : Nat → List UInt8) (e p : Nat → Int) (D1 D2 : Array Value) : Prop where
  below : Below B w wr
  size : wr.heap.size = B + 4 + 2 * k
  key : wr.heap[B]? = some (.cells (kc key) 29 (0, 0))
  ptrs : wr.heap[B + 1]? = some (.cells D1 49 (0, 0))
  hs : wr.heap[B + 2]? = some (.cells D2 49 (0, 0))
  h : wr.heap[B + 3]? = some (.cells #[.slice (some ⟨B + 2, 0, none⟩) n n] 46 (0, 0))
  l1 : D1.size = n
  l2 : D2.size = n
  at1 : ∀ i, i < k → D1[i]? = some (.pointer (some ⟨B + 5 + 2 * i, 0, none⟩))
  at2 : ∀ i, i < k → D2[i]? = some (.pointer (some ⟨B + 5 + 2 * i, 0, none⟩))
  el : ∀ i, i < k → wr.heap[B + 5 + 2 * i]? = some (.cells (ic (X i) (e i) (p i)) 51 (0, 0))

theorem Inv1.next {w wr w1 w2 w3 w4 w5 : World} {B n k : Nat} {key : List UInt8} {X : Nat → List UInt8} {e p : Nat → Int} {D1 D2 : Array Value} (I : Inv1 w wr B n k key X e p D1 D2) (hk : k < n) {z : Array Value}
    (u1 : Upd wr w1 (B + 4 + 2 * k) (.cells z 48 (0, 0))) (u2 : Upd w1 w2 (B + 4 + 2 * k) (.cells (ic (X k) (e k) (p k)) 48 (0, 0))) (u3 : Upd w2 w3 (B + 5 + 2 * k) (.cells (ic (X k) (e k) (p k)) 51 (0, 0)))
    (u4 : Upd w3 w4 (B + 1) (.cells (D1.setIfInBounds k (.pointer (some ⟨B + 5 + 2 * k, 0, none⟩))) 49 (0, 0))) (u5 : Upd w4 w5 (B + 2) (.cells (D2.setIfInBounds k (.pointer (some ⟨B + 5 + 2 * k, 0, none⟩))) 49 (0, 0))) :
    Inv1 w w5 B n (k + 1) key X e p (D1.setIfInBounds k (.pointer (some ⟨B + 5 + 2 * k, 0, none⟩))) (D2.setIfInBounds k (.pointer (some ⟨B + 5 + 2 * k, 0, none⟩))) := by
  have keep : ∀ j o, wr.heap[j]? = some o → j ≠ B + 1 → j ≠ B + 2 → j ≠ B + 4 + 2 * k → j ≠ B + 5 + 2 * k → w5.heap[j]? = some o := fun j o h h1 h2 h3 h4 => u5.keep h2 (u4.keep h1 (u3.keep h4 (u2.keep h3 (u1.keep h3 h))))
  have hD : ∀ D : Array Value, D.size = n → (∀ i, i < k → D[i]? = some (.pointer (some ⟨B + 5 + 2 * i, 0, none⟩))) → ∀ i, i < k + 1 → (D.setIfInBounds k (.pointer (some ⟨B + 5 + 2 * k, 0, none⟩)))[i]? = some (.pointer (some ⟨B + 5 + 2 * i, 0, none⟩)) := by
    intro D hD hat i hi
    rw [Array.getElem?_setIfInBounds]
    by_cases hik : k = i
    · subst hik; simp [hD, hk]
    · rw [if_neg hik]; exact hat i (by omega)
  have hs1 := u1.size; have hs2 := u2.size; have hs3 := u3.size; have hs4 := u4.size; have hs5 := u5.size
  have hs := I.size
  refine ⟨?_, by omega, keep _ _ I.key (by omega) (by omega) (by omega) (by omega), u5.keep (by omega) u4.here, u5.here, keep _ _ I.h (by omega) (by omega) (by omega) (by omega), by simp [I.l1], by simp [I.l2], hD _ I.l1 I.at1, hD _ I.l2 I.at2, ?_⟩
  · exact ((((I.below.trans (u1.below (by omega))).trans (u2.below (by omega))).trans (u3.below (by omega))).trans (u4.below (by omega))).trans (u5.below (by omega))
  · intro i hi
    by_cases hik : i = k
    · subst hik; exact u5.keep (by omega) (u4.keep (by omega) u3.here)
    · exact keep _ _ (I.el i (by omega)) (by omega) (by omega) (by omega) (by omega)

theorem Below.range {B : Nat} {w wr : World} (h : Below B w wr) {b o : Nat} {cs : List Value} (hb : b < B) (hr : w.rangeAt b o cs) : wr.rangeAt b o cs :=
  fun j v hj => (h.cell (p := ⟨b, o + j, none⟩) hb).trans (hr j v hj)

theorem kc_all (xs : List UInt8) (h : xs.length = 20) : (kc xs).extract 0 (0 + 20) = kc xs := by
  unfold kc
  apply Array.ext'
  simp
  rw [List.take_of_length_le (by simp [h])]
theorem eq_ptr (d : Nat) (a : Addr) (w : World) : (Op.equalIn (d + 1) 49 (.pointer (some a)) (.pointer (some a))).run Yba.prog w = .ok true w := by
  have hs : (sizeOf 51).run Yba.prog w = .ok 22 w := by kernel_rfl
  simp [Op.equalIn, run_underlying Yba.underlying49, hs, sameAddr]
theorem neq_ptr (a : Addr) (w : World) : (binOp .neq 49 (.pointer (some a)) (.pointer (some a))).run Yba.prog w = .ok (.bool false) w := by
  have h1 : (Op.equal 49 (.pointer (some a)) (.pointer (some a))).run Yba.prog w = .ok true w := eq_ptr 9999 a w
  simp only [binOp]
  simp [h1]
theorem ld_key {w : World} (m : Nat) {b : Nat} {xs : List UInt8} {e p : Int} {t : TypeId} (hb : w.heap[b]? = some (.cells (ic xs e p) t (0, 0))) (h : xs.length = 20) :
    (Instr.loadAt 30 (.pointer (some ⟨b, 0, none⟩))).run Yba.prog (w.drewN m) = .ok (.agg (kc xs)) (w.drewN m) := by
  have h1 : (w.drewN m).heap[b]? = some (.cells (ic xs e p) t (0, 0)) := hb
  have h2 : (w.drewN m).rangeAt b 0 (kc xs).toList := by
    have := World.rangeAt_of_block h1 0 20
    rwa [Nat.zero_add, ic_key _ _ _ h] at this
  have := run_loadAt_mid (P := Yba.prog) (w.drewN m) b 0 30 (kc xs).toList _ h2 Yba.underlying30 rfl (by rw [size30]; simp [kc_size, h])
  simpa using this
theorem ld_key29 {w : World} (m : Nat) {b : Nat} {xs : List UInt8} {e p : Int} {t : TypeId} (hb : w.heap[b]? = some (.cells (ic xs e p) t (0, 0))) (h : xs.length = 20) :
    (Instr.loadAt 29 (.pointer (some ⟨b, 0, none⟩))).run Yba.prog (w.drewN m) = .ok (.agg (kc xs)) (w.drewN m) := by
  have h1 : (w.drewN m).heap[b]? = some (.cells (ic xs e p) t (0, 0)) := hb
  have h2 : (w.drewN m).rangeAt b 0 (kc xs).toList := by
    have := World.rangeAt_of_block h1 0 20
    rwa [Nat.zero_add, ic_key _ _ _ h] at this
  have := run_loadAt_mid (P := Yba.prog) (w.drewN m) b 0 29 (kc xs).toList _ h2 Yba.underlying29 rfl (by rw [size29]; simp [kc_size, h])
  simpa using this
theorem ld_kc {w : World} (m : Nat) {b : Nat} {xs : List UInt8} {t : TypeId} (hb : w.heap[b]? = some (.cells (kc xs) t (0, 0))) (h : xs.length = 20) :
    (Instr.loadAt 29 (.pointer (some ⟨b, 0, none⟩))).run Yba.prog (w.drewN m) = .ok (.agg (kc xs)) (w.drewN m) := by
  have h1 : (w.drewN m).heap[b]? = some (.cells (kc xs) t (0, 0)) := hb
  have h2 : (w.drewN m).rangeAt b 0 (kc xs).toList := by
    have := World.rangeAt_of_block h1 0 20
    rwa [kc_all _ h] at this
  have := run_loadAt_mid (P := Yba.prog) (w.drewN m) b 0 29 (kc xs).toList _ h2 Yba.underlying29 rfl (by rw [size29]; simp [kc_size, h])
  simpa using this
theorem pushed_last {w w1 : World} {H E n N cap : Nat} {C ps D : Array Value} (U : Pushed w w1 H E n N cap C ps D) (hps : ps.size = n) : w1.cell? ⟨N + 1, n, none⟩ = some (.pointer (some ⟨E, 0, none⟩)) := by
  rw [cell_of_row w1 (N + 1) n D 49 (0, 0) U.atD]
  have h1 : (D.toList.take (n + 1))[n]? = some (.pointer (some ⟨E, 0, none⟩)) := by rw [U.elems]; simp [← hps]
  rw [List.getElem?_take_of_lt (by omega)] at h1
  simpa using h1
theorem pushed_elem {w w1 : World} {H E n N cap : Nat} {C ps D : Array Value} (U : Pushed w w1 H E n N cap C ps D) (hps : ps.size = n) {i : Nat} (hi : i < n) {v : Value} (hv : ps[i]? = some v) : w1.cell? ⟨N + 1, i, none⟩ = some v := by
  rw [cell_of_row w1 (N + 1) i D 49 (0, 0) U.atD]
  have h1 : (D.toList.take (n + 1))[i]? = some v := by rw [U.elems, List.getElem?_append_left (by simpa [hps] using hi)]; simpa using hv
  rw [List.getElem?_take_of_lt (by omega)] at h1
  simpa using h1

set_option maxRecDepth 100000 in
set_option maxHeartbeats 1000000 in
theorem lawB_any (w : World) (ao : Option Addr) (n cap b off B : Nat) (key : List UInt8) (X : Nat → List UInt8) (e p : Nat → Int) (ee pp : Int) (hB : w.heap.size = B) (hkey : key.length = 20)
    (hao : 0 < n → Hid (ao = some ⟨b, off, none⟩)) (hb : 0 < n → b < B) (hX : ∀ i, (X i).length = 20) (hit : ∀ i, i < n → w.rangeAt b (off + i * 22) (ic (X i) (e i) (p i)).toList) (hn : n ≤ 1048576) :
    Calls Yba.prog 5 #[.slice ao n cap, .agg (kc key), .int .i64 ee, .int .i64 pp] w fun e w1 => e = .returned (.bool true) ∧ Below B w w1 := by
  go_enter Yba.func5, Yba.ntmps5
  go_wp2_with (first
    | (refine at_op (.box 29 (.tmp 1)) rfl ?_; refine wl_box rfl 29 (.tmp 1) rfl (.agg (kc key)) rfl B hB ?_; intro w1 u1)
    | (refine at_op (.makeSlice 45 (.tmp 24) (.tmp 24)) rfl ?_; refine wl_make rfl (.tmp 24) (.tmp 24) 45 rfl 49 (.pointer none) 1 8 Yba.underlying45 info49 .i64 .i64 n rfl rfl (by omega) (by unfold maxLen; omega) (B + 1) (u1.size_new hB) ?_; intro w2 u2)
    | (refine at_op (.makeSlice 46 (.tmp 26) (.tmp 26)) rfl ?_; refine wl_make rfl (.tmp 26) (.tmp 26) 46 rfl 49 (.pointer none) 1 8 Yba.underlying46 info49 .i64 .i64 n rfl rfl (by omega) (by unfold maxLen; omega) (B + 2) (u2.size_new (u1.size_new hB)) ?_; intro w3 u3)
    | (refine at_op (.alloc 46) rfl ?_; refine wl_alloc rfl 46 rfl (.slice none 0 0) zero46 (B + 3) (u3.size_new (u2.size_new (u1.size_new hB))) ?_; intro w4 u4)
    | (refine at_op (.store 46 (.tmp 11) (.tmp 27)) rfl ?_; refine wl_store1 rfl 46 (.tmp 11) (.tmp 27) rfl (B + 3) 0 (.slice (some ⟨B + 2, 0, none⟩) n n) #[.slice none 0 0] 46 rfl rfl u4.here (by simp) size46 rfl ?_; intro w5 u5))
  have I0 : Inv1 w w5 B n 0 key X e p (madeCells #[.pointer none] (n * 1)) (madeCells #[.pointer none] (n * 1)) := by
    have s1 := u1.size; have s2 := u2.size; have s3 := u3.size; have s4 := u4.size; have s5 := u5.size
    refine ⟨?_, by omega, u5.keep (by omega) (u4.keep (by omega) (u3.keep (by omega) (u2.keep (by omega) u1.here))), u5.keep (by omega) (u4.keep (by omega) (u3.keep (by omega) u2.here)), u5.keep (by omega) (u4.keep (by omega) u3.here), u5.here, by simp [size_madeCells], by simp [size_madeCells], fun i hi => by omega, fun i hi => by omega, fun i hi => by omega⟩
    exact ((((u1.below (by omega)).trans (u2.below (by omega))).trans (u3.below (by omega))).trans (u4.below (by omega))).trans (u5.below (by omega))
  clear u1 u2 u3 u4 u5
  go_loopw [12] (fun i wr => ∃ (k : Nat) (D1 D2 : Array Value), k ≤ n ∧ i = .int .i64 k ∧ Inv1 w wr B n k key X e p D1 D2) (fun i _ => n - (intOf i).toNat)
  case atStart => exact ⟨0, _, _, Nat.zero_le _, rfl, I0⟩
  case round =>
    obtain ⟨k, D1, D2, hk, rfl, I⟩ := hrel
    clear I0
    by_cases hlt : k < n
    · have hr := Below.range I.below (hb (by omega)) (hit k hlt)
      have hXk := hX k
      have hss := I.size
      have hsz : (Yba.prog.info? 48).map (·.size) = some (ic (X k) (e k) (p k)).size := by rw [size48, ic_size, hXk]
      have hsz' : (ic (X k) (e k) (p k)).size = (ic (List.replicate 20 0) 0 0).size := by rw [ic_size, ic_size, hXk]; rfl
      have hl1 := I.l1
      have hl2 := I.l2
      go_wp2_with (first
        | (refine at_op (.indexAddr 44 (.tmp 33) (.tmp 34)) rfl ?_; refine wl_index rfl 44 (.tmp 33) (.tmp 34) rfl ao n cap rfl .i64 k rfl b off (hao (by omega)).out hlt 48 22 Yba.underlying44 size48 ?_)
        | (refine at_op (.load 48 (.tmp 35)) rfl ?_; refine wl_load_arr rfl 48 (.tmp 35) rfl b (off + k * 22) (ic (X k) (e k) (p k)) rfl hr _ Yba.underlying48 rfl hsz ?_)
        | (refine at_op (.alloc 48) rfl ?_; refine wl_alloc rfl 48 rfl _ zero48 (B + 4 + 2 * k) hss ?_; intro w1 u1)
        | (refine at_op (.store 48 (.tmp 13) (.tmp 36)) rfl ?_; refine wl_store_row rfl 48 (.tmp 13) (.tmp 36) rfl (B + 4 + 2 * k) (ic (X k) (e k) (p k)) (ic (List.replicate 20 0) 0 0) 48 rfl rfl u1.here hsz' hsz (ic_one _ _ _) ?_; intro w2 u2)
        | (refine at_op (.load 29 (.tmp 37)) rfl ?_; refine wl_load_agg rfl 29 (.tmp 37) rfl (B + 4 + 2 * k) 0 20 (ic (X k) (e k) (p k)) 48 (0, 0) rfl u2.here (by rw [ic_size, hXk]; decide) _ Yba.underlying29 rfl size29 ?_; rw [ic_key _ _ _ hXk])
        | (refine at_op (.load 2 (.tmp 39)) rfl ?_; refine wl_load1 rfl 2 (.tmp 39) rfl (B + 4 + 2 * k) 20 (ic (X k) (e k) (p k)) 48 (0, 0) (.int .i64 (e k)) rfl u2.here (ic_end _ _ _ hXk) _ Yba.underlying2 rfl ?_)
        | (refine at_op (.load 3 (.tmp 41)) rfl ?_; refine wl_load1 rfl 3 (.tmp 41) rfl (B + 4 + 2 * k) 21 (ic (X k) (e k) (p k)) 48 (0, 0) (.int .i64 (p k)) rfl u2.here (ic_place _ _ _ hXk) _ Yba.underlying3 rfl ?_)
        | (refine at_op (.build 51 #[(0, .tmp 38), (1, .tmp 40), (2, .tmp 42)]) rfl ?_; refine wl_build rfl 51 #[(0, .tmp 38), (1, .tmp 40), (2, .tmp 42)] rfl [(0, .agg (kc (X k))), (1, .int .i64 (e k)), (2, .int .i64 (p k))] (ic (X k) (e k) (p k)) rfl (built51 _ _ _ hXk) ?_)
        | (refine at_op (.box 51 (.tmp 43)) rfl ?_; refine wl_box rfl 51 (.tmp 43) rfl (.agg (ic (X k) (e k) (p k))) rfl (B + 5 + 2 * k) (by have := u2.size; have := u1.size; omega) ?_; intro w3 u3)
        | (refine at_op (.store 49 (.tmp 48) (.tmp 47)) rfl ?_; refine wl_store1 rfl 49 (.tmp 48) (.tmp 47) rfl (B + 1) k (.pointer (some ⟨B + 5 + 2 * k, 0, none⟩)) D1 49 rfl rfl (by exact u3.keep (by omega) (u2.keep (by omega) (u1.keep (by omega) I.ptrs))) (by omega) size49 rfl ?_; intro w4 u4)
        | (refine at_op (.load 46 (.tmp 11)) rfl ?_; refine wl_load1 rfl 46 (.tmp 11) rfl (B + 3) 0 #[.slice (some ⟨B + 2, 0, none⟩) n n] 46 (0, 0) (.slice (some ⟨B + 2, 0, none⟩) n n) rfl (by exact u4.keep (by omega) (u3.keep (by omega) (u2.keep (by omega) (u1.keep (by omega) I.h)))) rfl _ Yba.underlying46 rfl ?_)
        | (refine at_op (.store 49 (.tmp 52) (.tmp 51)) rfl ?_; refine wl_store1 rfl 49 (.tmp 52) (.tmp 51) rfl (B + 2) k (.pointer (some ⟨B + 5 + 2 * k, 0, none⟩)) D2 49 rfl rfl (by exact u4.keep (by omega) (u3.keep (by omega) (u2.keep (by omega) (u1.keep (by omega) I.hs)))) (by omega) size49 rfl ?_; intro w5 u5))
      go_roundw
      case rel => exact ⟨k + 1, _, _, by omega, by go_num, I.next hlt u1 u2 u3 u4 u5⟩
      case measure => simp [intOf]; omega
    · obtain rfl : k = n := by omega
      have hss := I.size
      have hptr := neq_ptr
      go_wp2_with (first
        | (refine at_op (.load 29 (.tmp 5)) rfl ?_; refine wl_load_agg rfl 29 (.tmp 5) rfl B 0 20 (kc key) 29 (0, 0) rfl I.key (by rw [kc_size, hkey]; decide) _ Yba.underlying29 rfl size29 ?_; rw [kc_all key hkey])
        | (refine at_op (.build 51 #[(0, .tmp 53), (1, .tmp 54), (2, .tmp 55)]) rfl ?_; refine wl_build rfl 51 #[(0, .tmp 53), (1, .tmp 54), (2, .tmp 55)] rfl [(0, .agg (kc key)), (1, .int .i64 ee), (2, .int .i64 pp)] (ic key ee pp) rfl (built51 _ _ _ hkey) ?_)
        | (refine at_op (.box 51 (.tmp 56)) rfl ?_; refine wl_box rfl 51 (.tmp 56) rfl (.agg (ic key ee pp)) rfl (B + 4 + 2 * k) hss ?_; intro w1 u1)
        | (go_at_call 12; refine (push_any w1 (B + 3) (B + 4 + 2 * k) (B + 2) k (B + 5 + 2 * k) (ic key ee pp) D2 (by exact u1.keep (by omega) I.h) (by exact u1.here) (by rw [ic_size, hkey]) (by exact u1.keep (by omega) I.hs) I.l2 (by omega) (by omega) (by have := u1.size; omega) hn).mono ?_; rintro _ w2 ⟨rfl, cap2, D, U⟩; have hc46 := cell_of_row w2 (B + 3) 0 _ _ _ U.atH; have hcn := pushed_last U I.l2; simp only [List.getElem?_toArray, List.getElem?_cons_zero] at hc46))
      have hI : w2.heap[B]? = some (.cells (kc key) 29 (0, 0)) := (U.other B (by omega) (by omega) (by omega)).trans (u1.keep (by omega) I.key)
      have hE := U.atE
      rw [ic_set _ _ _ _ hkey] at hE
      have hE20 : w2.cell? ⟨B + 4 + 2 * k, 20, none⟩ = some (.int .i64 ee) := by rw [cell_of_row w2 _ 20 _ _ _ hE]; exact ic_end _ _ _ hkey
      have hE21 : w2.cell? ⟨B + 4 + 2 * k, 21, none⟩ = some (.int .i64 k) := by rw [cell_of_row w2 _ 21 _ _ _ hE]; exact ic_place _ _ _ hkey
      have hld1 : ∀ m, (Instr.loadAt 30 (.pointer (some ⟨B + 4 + 2 * k, 0, none⟩))).run Yba.prog (w2.drewN m) = .ok (.agg (kc key)) (w2.drewN m) := fun m => ld_key m hE hkey
      have hld2 : ∀ m, (Instr.loadAt 29 (.pointer (some ⟨B, 0, none⟩))).run Yba.prog (w2.drewN m) = .ok (.agg (kc key)) (w2.drewN m) := fun m => ld_kc m hI hkey
      have heq := eq_key key hkey
      have hgd := guard30
      refine wp_region_quiet_lit (by kernel_rfl) (by kernel_rfl) ?_
      repeat (first
        | go_big_quiet_step (fail)
        | (refine wq_load 30 (.tmp 82) rfl rfl (.pointer (some ⟨B + 4 + 2 * k, 0, none⟩)) (.agg (kc key)) rfl hld1 ?_; simp only [Act.put, List.setIfInBounds_toArray, List.set_cons_zero, List.set_cons_succ])
        | (refine wq_load 29 (.tmp 5) rfl rfl (.pointer (some ⟨B, 0, none⟩)) (.agg (kc key)) rfl hld2 ?_; simp only [Act.put, List.setIfInBounds_toArray, List.set_cons_zero, List.set_cons_succ]))
      refine wpQuiet_nil ?_
      rintro w3 ⟨nq, rfl⟩
      have B2 : Below (B + 7 + 2 * k) w2 (w2.drewN nq) := ⟨rfl, rfl, rfl, Nat.le_refl _, fun _ _ => rfl⟩
      have hM := U.size
      have hel : ∀ i, i < k → w2.heap[B + 5 + 2 * i]? = some (.cells (ic (X i) (e i) (p i)) 51 (0, 0)) := fun i hi => (U.other _ (by omega) (by omega) (by omega)).trans (u1.keep (by omega) (I.el i hi))
      have hps1 : ∀ i, i < k → w2.cell? ⟨B + 1, i, none⟩ = some (.pointer (some ⟨B + 5 + 2 * i, 0, none⟩)) := fun i hi => by
        rw [cell_of_row w2 _ i _ _ _ ((U.other _ (by omega) (by omega) (by omega)).trans (u1.keep (by omega) I.ptrs))]; exact I.at1 i hi
      have hps2 : ∀ i, i < k → w2.cell? ⟨B + 5 + 2 * k + 1, i, none⟩ = some (.pointer (some ⟨B + 5 + 2 * i, 0, none⟩)) := fun i hi => pushed_elem U I.l2 hi (I.at2 i hi)
      clear hE20 hE21 hld1 hld2 heq hcn
      generalize w2.drewN nq = w3 at B2 ⊢
      have hbel2 : Below B w w2 := ⟨U.os.trans (u1.os.trans I.below.os), U.tape.trans (u1.tape.trans I.below.tape), U.output.trans (u1.output.trans I.below.output), by omega, fun j hj => (U.other j (by omega) (by omega) (by omega)).trans ((u1.other j (by omega)).trans (I.below.block j hj))⟩
      clear hI hE I U u1
      go_wp2
      go_loopw [17] (fun i wr => ∃ m : Nat, m ≤ k ∧ i = .int .i64 m ∧ Below (B + 7 + 2 * k) w2 wr) (fun i _ => k - (intOf i).toNat)
      case atStart => exact ⟨0, Nat.zero_le _, rfl, B2⟩
      case round =>
        obtain ⟨m, hm, rfl, J⟩ := hrel
        clear B2
        by_cases hlt2 : m < k
        · have j46 : wr.cell? ⟨B + 3, 0, none⟩ = some (.slice (some ⟨B + 5 + 2 * k + 1, 0, none⟩) (k + 1) cap2) := (J.cell (p := ⟨B + 3, 0, none⟩) (by show B + 3 < _; omega)).trans hc46
          have j1 : wr.cell? ⟨B + 1, m, none⟩ = some (.pointer (some ⟨B + 5 + 2 * m, 0, none⟩)) := (J.cell (p := ⟨B + 1, m, none⟩) (by show B + 1 < _; omega)).trans (hps1 m hlt2)
          have j2 : wr.cell? ⟨B + 5 + 2 * k + 1, m, none⟩ = some (.pointer (some ⟨B + 5 + 2 * m, 0, none⟩)) := (J.cell (p := ⟨B + 5 + 2 * k + 1, m, none⟩) (by show B + 5 + 2 * k + 1 < _; omega)).trans (hps2 m hlt2)
          have jel := (J.block (B + 5 + 2 * m) (by omega)).trans (hel m hlt2)
          have b1 : (0 : Int) ≤ (m : Int) := by omega
          have b2 : (m : Int) < (k : Int) := by omega
          have b3 : (m : Int) < (k : Int) + 1 := by omega
          go_wp2
          go_quiet (fail)
          have J2 : Below (B + 7 + 2 * k) w2 (wr.drewN nq) := ⟨J.os, J.tape, J.output, J.size, J.block⟩
          clear J j46 j1 j2 jel
          generalize hwg : wr.drewN nq = wg at J2 ⊢
          clear hwg
          have J := J2
          clear J2
          have hXm := hX m
          have hsz : (Yba.prog.info? 48).map (·.size) = some (ic (X m) (e m) (p m)).size := by rw [size48, ic_size, hXm]
          have hsz' : (ic (X m) (e m) (p m)).size = (ic (List.replicate 20 0) 0 0).size := by rw [ic_size, ic_size, hXm]; rfl
          have hr := Below.range J (show b < B + 7 + 2 * k by have := hb (by omega); omega) (Below.range hbel2 (hb (by omega)) (hit m hlt2))
          obtain ⟨N, hN⟩ : ∃ N, wg.heap.size = N := ⟨_, rfl⟩
          have hNM : B + 7 + 2 * k ≤ N := by have := J.size; omega
          go_wp2_with (first
            | (refine at_op (.indexAddr 44 (.tmp 109) (.tmp 110)) rfl ?_; refine wl_index rfl 44 (.tmp 109) (.tmp 110) rfl ao k cap rfl .i64 m rfl b off (hao (by omega)).out hlt2 48 22 Yba.underlying44 size48 ?_)
            | (refine at_op (.load 48 (.tmp 111)) rfl ?_; refine wl_load_arr rfl 48 (.tmp 111) rfl b (off + m * 22) (ic (X m) (e m) (p m)) rfl hr _ Yba.underlying48 rfl hsz ?_)
            | (refine at_op (.alloc 48) rfl ?_; refine wl_alloc rfl 48 rfl _ zero48 N hN ?_; intro w4 u4)
            | (refine at_op (.store 48 (.tmp 18) (.tmp 112)) rfl ?_; refine wl_store_row rfl 48 (.tmp 18) (.tmp 112) rfl N (ic (X m) (e m) (p m)) (ic (List.replicate 20 0) 0 0) 48 rfl rfl u4.here hsz' hsz (ic_one _ _ _) ?_; intro w5 u5))
          have J5 : Below (B + 7 + 2 * k) w2 w5 := (J.trans (u4.below (by omega))).trans (u5.below (by omega))
          have hit5 := u5.here
          clear u4 u5 J hr hN hsz hsz'
          have j46 : w5.cell? ⟨B + 3, 0, none⟩ = some (.slice (some ⟨B + 5 + 2 * k + 1, 0, none⟩) (k + 1) cap2) := (J5.cell (p := ⟨B + 3, 0, none⟩) (by show B + 3 < _; omega)).trans hc46
          have j2 : w5.cell? ⟨B + 5 + 2 * k + 1, m, none⟩ = some (.pointer (some ⟨B + 5 + 2 * m, 0, none⟩)) := (J5.cell (p := ⟨B + 5 + 2 * k + 1, m, none⟩) (by show B + 5 + 2 * k + 1 < _; omega)).trans (hps2 m hlt2)
          have jel := (J5.block (B + 5 + 2 * m) (by omega)).trans (hel m hlt2)
          have hE20 : w5.cell? ⟨B + 5 + 2 * m, 20, none⟩ = some (.int .i64 (e m)) := by rw [cell_of_row w5 _ 20 _ _ _ jel]; exact ic_end _ _ _ hXm
          have hE21 : w5.cell? ⟨B + 5 + 2 * m, 21, none⟩ = some (.int .i64 (p m)) := by rw [cell_of_row w5 _ 21 _ _ _ jel]; exact ic_place _ _ _ hXm
          have hF20 : w5.cell? ⟨N, 20, none⟩ = some (.int .i64 (e m)) := by rw [cell_of_row w5 _ 20 _ _ _ hit5]; exact ic_end _ _ _ hXm
          have hF21 : w5.cell? ⟨N, 21, none⟩ = some (.int .i64 (p m)) := by rw [cell_of_row w5 _ 21 _ _ _ hit5]; exact ic_place _ _ _ hXm
          have hld1 : ∀ q, (Instr.loadAt 30 (.pointer (some ⟨B + 5 + 2 * m, 0, none⟩))).run Yba.prog (w5.drewN q) = .ok (.agg (kc (X m))) (w5.drewN q) := fun q => ld_key q jel hXm
          have hld2 : ∀ q, (Instr.loadAt 29 (.pointer (some ⟨N, 0, none⟩))).run Yba.prog (w5.drewN q) = .ok (.agg (kc (X m))) (w5.drewN q) := fun q => ld_key29 q hit5 hXm
          have heq := eq_key (X m) hXm
          have hgd := guard30
          simp only [Act.put, List.setIfInBounds_toArray, List.set_cons_zero, List.set_cons_succ]
          refine wp_region_quiet_lit (by kernel_rfl) (by kernel_rfl) ?_
          repeat (first
            | go_big_quiet_step (fail)
            | (refine wq_load 30 (.tmp 118) rfl rfl (.pointer (some ⟨B + 5 + 2 * m, 0, none⟩)) (.agg (kc (X m))) rfl hld1 ?_; simp only [Act.put, List.setIfInBounds_toArray, List.set_cons_zero, List.set_cons_succ])
            | (refine wq_load 29 (.tmp 120) rfl rfl (.pointer (some ⟨N, 0, none⟩)) (.agg (kc (X m))) rfl hld2 ?_; simp only [Act.put, List.setIfInBounds_toArray, List.set_cons_zero, List.set_cons_succ]))
          refine wpQuiet_nil ?_
          rintro w6 ⟨nr, rfl⟩
          have J6 : Below (B + 7 + 2 * k) w2 (w5.drewN nr) := ⟨J5.os, J5.tape, J5.output, J5.size, J5.block⟩
          clear hE20 hE21 hF20 hF21 hld1 hld2 heq hgd j46 j2 jel hit5 J5
          generalize hwh : w5.drewN nr = wh at J6 ⊢
          clear hwh
          go_wp2
          go_roundw
          case rel => exact ⟨m + 1, by omega, by go_num, J6⟩
          case measure => simp [intOf]; omega
        · obtain rfl : m = k := by omega
          go_wp2
          go_ret
          exact ⟨rfl, hbel2.trans (J.mono (by omega))⟩
end Go.Proofs.Ybulkduau
