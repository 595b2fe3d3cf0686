/-
  'overlay.LawS6044BWhole': the walk.
-/
import Derived.Test.YbulkdudmLaw0
import Derived.Deep.CutBlock
namespace Go.Proofs.Ybulkdudm
open Go.RowKit Go.Split
open Extern.Stop (cell)

theorem rng_id {w : World} {av : Option Addr} {n g i : Nat} {E : Nat → Pe.Ev} (h : PRow w av n g E) (hi : i < n) : w.rangeAt g (i * 18) (kc (E i).id).toList := by
  have h0 := rng_pe h hi
  rw [Nat.zero_add] at h0
  intro j v hj
  refine h0 j v ?_
  have hl : (kc (E i).id).toList.length = 16 := by simp [kc_size, h.ok i]
  have hlt := (List.getElem?_eq_some_iff.1 hj).1
  unfold Pe.ec
  rw [Array.toList_append, List.getElem?_append_left (by omega)]
  exact hj
theorem sub_run {n K : Nat} (h : K ≤ n) (hn : n ≤ 512) (w : World) : (binOp .sub 3 (.int .i64 n) (.int .i64 K)).run Yba.prog w = .ok (.int .i64 ((n - K : Nat) : Int)) w := by
  show Result.ok (Value.int .i64 (IntKind.i64.wrap ((n : Int) - K))) w = _
  rw [IntKind.wrap_i64]
  congr 2
  omega
theorem gdSub (x y : Operand) (vx vy : Value) (w : World) : (eqGuard .sub 3 x y vx vy).run Yba.prog w = .ok () w := by simp [eqGuard]
/-- While the marks are set. -/
structure UInv (w4 wr : World) (N0 U : Nat) (C : Array Value) : Prop where
  row : wr.heap[U]? = some (.cells C 4 (0, 0))
  below : Below N0 w4 wr

set_option maxRecDepth 100000 in
set_option maxHeartbeats 4000000 in
theorem law_any (w : World) (a1 a2 : Option Addr) (m n c1 c2 B : Nat) (EW EP : Nat → Pe.Ev) (hB : w.heap.size = B) (hI1 : In w a1 m EW) (hI2 : In w a2 n EP) (hm : m ≤ 512) (hn : n ≤ 512) :
    Calls Yba.prog 3 #[.slice a1 m c1, .slice a2 n c2] w fun r w1 => r = .returned (.bool true) ∧ Below B w w1 := by
  have hmi : ¬ ((512 : Int) < (m : Int)) := by omega
  have hni : ¬ ((512 : Int) < (n : Int)) := by omega
  go_enter Yba.func3, Yba.ntmps3
  go_upto_region 4 with (go_at_call 4; refine (peers_any w a1 m c1 B EW hI1 hB hm).mono ?_; rintro _ w1 ⟨aW, rfl, R1, n1, b1⟩)
  have J2 := hI2.later (w1 := w1) (hB ▸ b1)
  obtain ⟨N2, hN2⟩ : ∃ N, w1.heap.size = N := ⟨_, rfl⟩
  go_upto_region 5 with (go_at_call 4; refine (peers_any w1 a2 n c2 N2 EP J2 hN2 hn).mono ?_; rintro _ w2 ⟨aP, rfl, R2, n2, b2⟩)
  have b12 := b1.trans (b2.mono (by have := b1.size; omega))
  have J3 := hI1.later (w1 := w2) (hB ▸ b12)
  obtain ⟨N3, hN3⟩ : ∃ N, w2.heap.size = N := ⟨_, rfl⟩
  go_upto_region 6 with (go_at_call 4; refine (peers_any w2 a1 m c1 N3 EW J3 hN3 hm).mono ?_; rintro _ w3 ⟨aWC, rfl, R3, n3, b3⟩)
  have b13 := b12.trans (b3.mono (by have := b12.size; omega))
  have J4 := hI2.later (w1 := w3) (hB ▸ b13)
  obtain ⟨N4, hN4⟩ : ∃ N, w3.heap.size = N := ⟨_, rfl⟩
  go_upto_region 7 with (go_at_call 4; refine (peers_any w3 a2 n c2 N4 EP J4 hN4 hn).mono ?_; rintro _ w4 ⟨aPC, rfl, R4, n4, b4⟩)
  have b14 := b13.trans (b4.mono (by have := b13.size; omega))
  go_upto_block 0 with fail
  obtain ⟨N0, hN0⟩ : ∃ N, w4.heap.size = N := ⟨_, rfl⟩
  have z1 := b1.size; have z2 := b2.size; have z3 := b3.size; have z4 := b4.size
  have Q1 : PRow w4 aW m B EW := R1.later (fun h => by have := lt_of_heap (R1.row h); rw [b4.block _ (by omega), b3.block _ (by omega), b2.block _ (by omega)])
  have Q2 : PRow w4 aP n N2 EP := R2.later (fun h => by have := lt_of_heap (R2.row h); rw [b4.block _ (by omega), b3.block _ (by omega)])
  have Q3 : PRow w4 aWC m N3 EW := R3.later (fun h => by have := lt_of_heap (R3.row h); rw [b4.block _ (by omega)])
  have l1 : 0 < m → B < N0 := fun h => hN0 ▸ lt_of_heap (Q1.row h)
  have l2 : 0 < n → N2 < N0 := fun h => hN0 ▸ lt_of_heap (Q2.row h)
  have l3 : 0 < m → N3 < N0 := fun h => hN0 ▸ lt_of_heap (Q3.row h)
  have l4 : 0 < n → N4 < N0 := fun h => hN0 ▸ lt_of_heap (R4.row h)
  have nl1 : aWC.isNone = aW.isNone := n3.trans n1.symm
  have nl2 : aPC.isNone = aP.isNone := n4.trans n2.symm
  have hB0 : B ≤ N0 := by omega
  clear R1 R2 R3 n1 n2 n3 n4 b1 b2 b3 b4 b12 b13 J2 J3 J4 hI1 hI2 z1 z2 z3 z4 hN2 hN3 hN4 hB
  obtain ⟨Wf, hWf⟩ : ∃ Wf : Nat → Key, Wf = fun i => (EW i).id := ⟨_, rfl⟩
  obtain ⟨Pf, hPf⟩ : ∃ Pf : Nat → Key, Pf = fun i => (EP i).id := ⟨_, rfl⟩
  have eW : ∀ i, (EW i).id = Wf i := fun i => by rw [hWf]
  have eP : ∀ i, (EP i).id = Pf i := fun i => by rw [hPf]
  obtain ⟨K, hK⟩ : ∃ K, kept Wf Pf n m = K := ⟨_, rfl⟩
  have hKn : K ≤ n := by rw [← hK]; exact kept_le m
  have HW : Hid (Wf = fun i => (EW i).id) := hWf
  have HP : Hid (Pf = fun i => (EP i).id) := hPf
  have HK : Hid (kept Wf Pf n m = K) := hK
  clear hWf hPf hK
  go_cut [9] from 37 to 48 (fun s9 wx => s9 = .int .i64 K ∧ Below N0 w4 wx)
  case first =>
    go_wp2_with fail
    go_loopw [9] (fun s9 wr => ∃ k : Nat, s9 = .int .i64 k ∧ K ≤ k ∧ k ≤ n ∧ Below N0 w4 wr) (fun s9 _ => (intOf s9).toNat)
    case atStart => exact ⟨n, rfl, hKn, Nat.le_refl _, Below.refl _ _⟩
    case round =>
      obtain ⟨k, rfl, hk1, hk2, J⟩ := hrel
      by_cases hk0 : 0 < k
      · have bk : (0 : Int) < (k : Int) := by omega
        have S1 := Q2.later (fun h => J.block _ (l2 h))
        have S2 := Q1.later (fun h => J.block _ (l1 h))
        have hsb := sub_any wr aP aW k n m N2 B EP EW S1 S2 hk2
        rw [← HW.out, ← HP.out, HK.out] at hsb
        by_cases hkl : k ≤ K
        · have hkK : Hid (k = K) := (by omega : k = K)
          rw [decide_eq_true hkl] at hsb
          go_wp2_with (first
            | (refine at_op (.slice 23 (.tmp 40) none (some (.tmp 41)) none) rfl ?_; refine wl_slice rfl 23 (.tmp 40) none (some (.tmp 41)) none rfl (.slice aP n n) none (some (.int .i64 k)) none _ rfl rfl rfl rfl (slice_hi hk2 (by omega) _) ?_)
            | (go_at_call 5; refine hsb.mono ?_; rintro _ w5 ⟨rfl, q, rfl⟩))
          go_meet
          exact ⟨by rw [hkK.out], J.os, J.tape, J.output, J.size, J.block⟩
        · have hkK : K < k := by omega
          rw [decide_eq_false hkl] at hsb
          go_wp2_with (first
            | (refine at_op (.slice 23 (.tmp 40) none (some (.tmp 41)) none) rfl ?_; refine wl_slice rfl 23 (.tmp 40) none (some (.tmp 41)) none rfl (.slice aP n n) none (some (.int .i64 k)) none _ rfl rfl rfl rfl (slice_hi hk2 (by omega) _) ?_)
            | (go_at_call 5; refine hsb.mono ?_; rintro _ w5 ⟨rfl, q, rfl⟩))
          go_roundw
          case rel => exact ⟨k - 1, by go_num, by omega, by omega, J.os, J.tape, J.output, J.size, J.block⟩
          case measure => simp [intOf]; omega
      · obtain rfl : k = 0 := by omega
        obtain rfl : K = 0 := by omega
        go_wp2
        go_meet
        exact ⟨rfl, J⟩
  case rest =>
    obtain ⟨rfl, J⟩ := hcut
    obtain ⟨U, hU⟩ : ∃ U, wc.heap.size = U := ⟨_, rfl⟩
    have hUN : N0 ≤ U := by have := J.size; omega
    go_wp2_with (refine at_op (.makeSlice 26 (.tmp 50) (.tmp 50)) rfl ?_; refine wl_make rfl (.tmp 50) (.tmp 50) 26 rfl 4 _ 1 1 Yba.underlying26 info4 .i64 .i64 m rfl rfl (by omega) (by unfold maxLen; omega) U hU ?_; intro w5 u5; rw [uarr_zero (W := Wf) (P := Pf) (n := n)] at u5)
    have V0 : UInv w4 w5 N0 U (uarr Wf Pf n m 0) := ⟨u5.here, J.trans (u5.below (by omega))⟩
    clear u5 J
    go_loopw [11, 12] (fun s11 s12 wr => ∃ i j : Nat, s11 = .int .i64 i ∧ s12 = .int .i64 j ∧ i ≤ m ∧ j ≤ K ∧ Hid (kept Wf Pf n i = j) ∧ UInv w4 wr N0 U (uarr Wf Pf n m i)) (fun _ s12 _ => K - (intOf s12).toNat)
    case atStart => exact ⟨0, 0, rfl, rfl, Nat.zero_le _, Nat.zero_le _, rfl, V0⟩
    case round =>
      obtain ⟨i0, j, rfl, rfl, hi0, hj, hk0, V⟩ := hrel
      clear V0
      by_cases hjk : j < K
      · have bj : (j : Int) < (K : Int) := by omega
        go_wp2
        go_loopw [11] (fun s11 wr => ∃ i : Nat, s11 = .int .i64 i ∧ i ≤ m ∧ Hid (kept Wf Pf n i = j) ∧ UInv w4 wr N0 U (uarr Wf Pf n m i)) (fun s11 _ => m - (intOf s11).toNat)
        case atStart => exact ⟨i0, rfl, hi0, hk0, V⟩
        case round =>
          obtain ⟨i, rfl, hi, hkept, V⟩ := hrel
          clear hk0 hi0
          have him : i < m := by
            rcases Nat.lt_or_ge i m with h | h
            · exact h
            · obtain rfl : i = m := by omega
              have := hkept.out.symm.trans HK.out
              omega
          have bi : (i : Int) < (m : Int) := by omega
          have hx1 := fun (w : World) => idx_run (w := w) (t := 23) (e := 31) (cap := m) (size := 18) (Q1.at_ (by omega)).out him Yba.underlying23 Pe.size31
          have hx2 := fun (w : World) => idx_run (w := w) (t := 23) (e := 31) (cap := n) (size := 18) (Q2.at_ (by omega)).out (show j < n by omega) Yba.underlying23 Pe.size31
          have S1 := Q1.later (w1 := wr) (fun h => V.below.block _ (l1 h))
          have S2 := Q2.later (w1 := wr) (fun h => V.below.block _ (l2 h))
          have d1 : ∀ q', (Instr.loadAt 28 (.pointer (some ⟨B, i * 18, none⟩))).run Yba.prog (wr.drewN q') = .ok (.agg (kc (Wf i))) (wr.drewN q') := fun q' => by rw [← eW i]; have := ld_id (S1.drewN q') him; rwa [Nat.zero_add] at this
          have d2 : ∀ q', (Instr.loadAt 28 (.pointer (some ⟨N2, j * 18, none⟩))).run Yba.prog (wr.drewN q') = .ok (.agg (kc (Pf j))) (wr.drewN q') := fun q' => by rw [← eP j]; have := ld_id (S2.drewN q') (show j < n by omega); rwa [Nat.zero_add] at this
          have lW : (Wf i).length = 16 := by rw [← eW i]; exact Q1.ok i
          have lP : (Pf j).length = 16 := by rw [← eP j]; exact Q2.ok j
          go_wp2
          refine wp_region_quiet_lit (by kernel_rfl) (by kernel_rfl) ?_
          repeat (first
            | (refine wq_index 23 (.tmp 62) (.tmp 63) rfl rfl (.slice aW m m) (.int .i64 i) (.pointer (some ⟨B, 0 + i * 18, none⟩)) rfl rfl hx1 ?_; simp only [Act.put, List.setIfInBounds_toArray, List.set_cons_zero, List.set_cons_succ])
            | (refine wq_index 23 (.tmp 67) (.tmp 68) rfl rfl (.slice aP n n) (.int .i64 j) (.pointer (some ⟨N2, 0 + j * 18, none⟩)) rfl rfl hx2 ?_; simp only [Act.put, List.setIfInBounds_toArray, List.set_cons_zero, List.set_cons_succ])
            | (refine wq_load 28 (.tmp 65) rfl rfl (.pointer (some ⟨B, i * 18, none⟩)) (.agg (kc (Wf i))) rfl d1 ?_; simp only [Act.put, List.setIfInBounds_toArray, List.set_cons_zero, List.set_cons_succ])
            | (refine wq_load 28 (.tmp 70) rfl rfl (.pointer (some ⟨N2, j * 18, none⟩)) (.agg (kc (Pf j))) rfl d2 ?_; simp only [Act.put, List.setIfInBounds_toArray, List.set_cons_zero, List.set_cons_succ])
            | (refine wq_bin .neq 28 (.tmp 66) (.tmp 71) 28 rfl rfl (.agg (kc (Wf i))) (.agg (kc (Pf j))) (.bool (!(Wf i == Pf j))) rfl rfl (fun w => gd28 _ _ _ _ _ w (.inr rfl)) (fun w => neq28 _ _ lW lP w) ?_; simp only [Act.put, List.setIfInBounds_toArray, List.set_cons_zero, List.set_cons_succ])
            | go_big_quiet_step (fail))
          refine wpQuiet_nil ?_
          rintro w7 ⟨nq, rfl⟩
          have V' : UInv w4 (wr.drewN nq) N0 U (uarr Wf Pf n m i) := ⟨V.row, ⟨V.below.os, V.below.tape, V.below.output, V.below.size, V.below.block⟩⟩
          clear hx1 hx2 d1 d2 lW lP V S1 S2
          generalize wr.drewN nq = w7 at V' ⊢
          by_cases he : Pf j = Wf i
          · have heq : (Wf i == Pf j) = true := by simp [he]
            rw [heq]
            have hkt := kept_take hkept.out (by omega) he
            have HT : Hid _ := hkt
            clear hkt heq he
            go_wp2_with (first
              | (refine at_op (.indexAddr 26 (.tmp 80) (.tmp 81)) rfl ?_; refine wl_index rfl 26 (.tmp 80) (.tmp 81) rfl _ m m rfl .i64 i rfl U 0 rfl him 4 1 Yba.underlying26 size4 ?_)
              | (refine at_op (.store 4 (.tmp 82) (.const (.bool true))) rfl ?_; refine wl_store1 rfl 4 (.tmp 82) (.const (.bool true)) rfl U (0 + i * 1) (.bool true) (uarr Wf Pf n m i) 4 rfl rfl V'.row (by rw [uarr_size]; omega) size4 rfl ?_; intro w8 u8; rw [show 0 + i * 1 = i by omega, uarr_take HT.out.2] at u8))
            go_roundw
            case rel => exact ⟨i + 1, j + 1, by go_num, by go_num, by omega, by omega, HT.out.1, u8.here, V'.below.trans (u8.below hUN)⟩
            case measure => simp [intOf]; omega
          · have heq : (Wf i == Pf j) = false := by simpa using fun h => he h.symm
            rw [heq]
            have hks := kept_skip hkept.out he
            go_wp2
            go_roundw
            case rel => exact ⟨i + 1, by go_num, by omega, hks.1, by rw [uarr_skip hks.2]; exact V'⟩
            case measure => simp [intOf]; omega
      · obtain rfl : K = j := by omega
        rw [uarr_end (hk0.out.trans HK.out.symm)] at V
        clear hk0 hi0
        go_wp2
        generalize wr = wu at V ⊢
        obtain ⟨M, hM⟩ : ∃ M, wu.heap.size = M := ⟨_, rfl⟩
        have hUM : U < M := hM ▸ lt_of_heap V.row
        go_loopw [13, 14] (fun s13 s14 wr => ∃ (x : Nat) (av : Option Addr) (nn cap g : Nat) (L : List Key), s14 = .int .i64 x ∧ x ≤ m ∧ s13 = .slice av nn cap ∧ CInv wu wr M av nn cap g L (left Wf Pf n x)) (fun _ s14 _ => m - (intOf s14).toNat)
        case atStart => exact ⟨0, none, 0, 0, M, [], rfl, Nat.zero_le _, rfl, IdRow.start _ _, Nat.le_refl _, Below.refl _ _⟩
        case round =>
          obtain ⟨x, av, nn, cap, g, L, rfl, hx, rfl, I⟩ := hrel
          by_cases hxm : x < m
          · have bx : (x : Int) < (m : Int) := by omega
            have hget : (uarr Wf Pf n m m)[0 + x * 1]? = some (.bool (met Wf Pf n x)) := by rw [show 0 + x * 1 = x by omega, uarr_get hxm]; simp [hxm]
            have hUr := (I.below.block U (by omega)).trans V.row
            cases hmt : met Wf Pf n x with
            | true =>
              rw [hmt] at hget
              have hl : left Wf Pf n (x + 1) = left Wf Pf n x := by rw [left, hmt]; rfl
              have HL : Hid _ := hl
              clear hl hmt
              go_wp2_with (first
                | (refine at_op (.indexAddr 26 (.tmp 91) (.tmp 92)) rfl ?_; refine wl_index rfl 26 (.tmp 91) (.tmp 92) rfl _ m m rfl .i64 x rfl U 0 rfl hxm 4 1 Yba.underlying26 size4 ?_)
                | (refine at_op (.load 4 (.tmp 93)) rfl ?_; refine wl_load1 rfl 4 (.tmp 93) rfl U (0 + x * 1) (uarr Wf Pf n m m) 4 (0, 0) (.bool true) rfl hUr hget _ Yba.underlying4 rfl ?_))
              go_roundw
              case rel => exact ⟨x + 1, av, nn, cap, g, L, by go_num, by omega, rfl, by rw [HL.out]; exact I⟩
              case measure => simp [intOf]; omega
            | false =>
              rw [hmt] at hget
              have hl : left Wf Pf n (x + 1) = left Wf Pf n x ++ [Wf x] := by rw [left, hmt]; rfl
              have HL : Hid _ := hl
              clear hl hmt
              have lW : (Wf x).length = 16 := by rw [← eW x]; exact Q1.ok x
              have hnn : nn ≤ m := by have := I.row.len; have := left_length (W := Wf) (P := Pf) (n := n) x; omega
              have S1 := Q1.later (w1 := wr) (fun h => by rw [I.below.block _ (by have := l1 h; omega)]; exact V.below.block _ (l1 h))
              have hr := rng_id S1 hxm
              rw [eW x] at hr
              obtain ⟨M5, hM5⟩ : ∃ M, wr.heap.size = M := ⟨_, rfl⟩
              have hMM : M ≤ M5 := by have := I.below.size; omega
              go_wp2_with (first
                | (refine at_op (.indexAddr 26 (.tmp 91) (.tmp 92)) rfl ?_; refine wl_index rfl 26 (.tmp 91) (.tmp 92) rfl _ m m rfl .i64 x rfl U 0 rfl hxm 4 1 Yba.underlying26 size4 ?_)
                | (refine at_op (.load 4 (.tmp 93)) rfl ?_; refine wl_load1 rfl 4 (.tmp 93) rfl U (0 + x * 1) (uarr Wf Pf n m m) 4 (0, 0) (.bool false) rfl hUr hget _ Yba.underlying4 rfl ?_)
                | (refine at_op (.indexAddr 23 (.tmp 97) (.tmp 98)) rfl ?_; refine wl_index rfl 23 (.tmp 97) (.tmp 98) rfl aW m m rfl .i64 x rfl B 0 (Q1.at_ (by omega)).out hxm 31 18 Yba.underlying23 Pe.size31 ?_; rw [Nat.zero_add])
                | (refine at_op (.load 28 (.tmp 100)) rfl ?_; refine wl_load_arr rfl 28 (.tmp 100) rfl B (x * 18) (kc (Wf x)) rfl hr _ Yba.underlying28 rfl (by rw [Id.size28, kc_size, lW]) ?_)
                | (refine at_op (.buildSlice 32 1 #[(0, .tmp 101)]) rfl ?_; refine wl_slice1 rfl 32 (.tmp 101) rfl (.agg (kc (Wf x))) rfl 28 (slice28 _ lW) M5 hM5 ?_; intro w8 u8)
                | (refine at_op (.call { callee := .builtin .append, args := #[.tmp 96, .tmp 102], argTypes := #[32, 32] }) rfl ?_; refine Id.wl_append_ev rfl (.tmp 96) (.tmp 102) rfl (.slice av nn cap) nn cap g L rfl (I.row.later (fun o ho => u8.keep (by have := lt_of_heap ho; omega) ho)).row (Wf x) lW M5 1 rfl u8.here (by omega) (M5 + 1) (by have := u8.size; omega) ?_; intro w9 g1 cap1 L1 A))
              go_roundw
              case rel =>
                have hg1 : M ≤ g1 := by have := I.ge; rcases A.wh with ⟨h, _⟩ | ⟨h, _⟩ <;> omega
                refine ⟨x + 1, _, nn + 1, cap1, g1, L1, by go_num, by omega, by go_num, ?_, hg1, ?_⟩
                · rw [HL.out]
                  exact (I.row.later (fun o ho => u8.keep (by have := lt_of_heap ho; omega) ho)).push A
                · refine (I.below.trans (u8.below (by omega))).trans ⟨A.os, A.tape, A.output, ?_, fun j hj => A.other j (by omega)⟩
                  have := u8.size
                  rcases A.wh with ⟨_, _, h⟩ | ⟨_, h⟩ <;> omega
              case measure => simp [intOf]; omega
          · obtain rfl : m = x := by omega
            obtain ⟨M6, hM6⟩ : ∃ M, wr.heap.size = M := ⟨_, rfl⟩
            have hMM : M ≤ M6 := by have := I.below.size; omega
            have b46 : Below N0 w4 wr := V.below.trans (I.below.mono (by omega))
            have S1 := Q1.later (w1 := wr) (fun h => b46.block _ (l1 h))
            have S2 := Q2.later (w1 := wr) (fun h => b46.block _ (l2 h))
            have S3 := Q3.later (w1 := wr) (fun h => b46.block _ (l3 h))
            have S4 := R4.later (w1 := wr) (fun h => b46.block _ (l4 h))
            obtain ⟨R, hR⟩ : ∃ R, n - K = R := ⟨_, rfl⟩
            obtain ⟨D, hD⟩ : ∃ D, left Wf Pf n m = D := ⟨_, rfl⟩
            obtain ⟨aA, hA⟩ : ∃ aA, (if n = K then aP else aP.map (·.add (K * 18))) = aA := ⟨_, rfl⟩
            have hch := change_any wr aP aW n m N2 B M6 EP EW S2 S1 hM6 K D aA hA (by rw [← HW.out, ← HP.out]; exact HK.out) (by rw [← HW.out, ← HP.out]; exact hD)
            rw [hR] at hch
            have hnn : nn ≤ m := by have := I.row.len; have := left_length (W := Wf) (P := Pf) (n := n) m; omega
            rw [hD] at I
            have HA : Hid _ := hA
            have HR : Hid (n - K = R) := hR
            clear hA hD hR V
            go_upto_region 27 with (go_at_call 6; refine hch.mono ?_; rintro _ w6 ⟨avd, nd, capd, gd, Ld, rfl, CI⟩)
            have hlt1 : 0 < m → B < M6 := fun h => by have := l1 h; omega
            have T1 := S1.later (w1 := w6) (fun h => CI.below.block _ (by have := l1 h; omega))
            have T2 := S2.later (w1 := w6) (fun h => CI.below.block _ (by have := l2 h; omega))
            have T3 := S3.later (w1 := w6) (fun h => CI.below.block _ (by have := l3 h; omega))
            have T4 := S4.later (w1 := w6) (fun h => CI.below.block _ (by have := l4 h; omega))
            have IW := I.row.later (w1 := w6) (fun o ho => (CI.below.block _ (by have := lt_of_heap ho; omega)).trans ho)
            have ID := CI.row
            obtain rfl : nn = nd := IW.len.symm.trans ID.len
            have bB6 : Below B w w6 := b14.trans ((b46.trans (CI.below.mono (by omega))).mono hB0)
            clear S1 S2 S3 S4 I CI hch
            have hRn : R = n - K := HR.out.symm
            have hRn' : R ≤ n := by omega
            have HRn : Hid (R = n - K) := hRn
            clear hRn
            go_upto_region 31 with (first
              | (go_at_call 7; have h7 := hflag; refine (eq_any w7 aP aPC n N2 N4 EP T2' T4' nl2).mono ?_; rintro _ w8 ⟨rfl, q2, hq2'⟩; have hq2 : Hid _ := hq2'; clear hq2')
              | (go_at_call 7; have hflag := trivial; refine (eq_any w6 aW aWC m B N3 EW T1 T3 nl1).mono ?_; rintro _ w7 ⟨rfl, q1, hq1'⟩; have T2' : PRow w7 aP n N2 EP := (by rw [hq1']; exact T2.drewN q1); have T4' : PRow w7 aPC n N4 EP := (by rw [hq1']; exact T4.drewN q1); have hq1 : Hid _ := hq1'; clear hq1')
              | (refine at_op (.binOp .sub 3 (.tmp 123) (.tmp 124) 3) rfl ?_; refine wl_bin rfl .sub 3 (.tmp 123) (.tmp 124) 3 rfl (.int .i64 n) (.int .i64 K) (.int .i64 R) rfl rfl (gdSub _ _ _ _ _) (by rw [HRn.out]; exact sub_run hKn hn _) ?_))
            have T8 : PRow w8 aP n N2 EP := by rw [hq2.out]; exact T2'.drewN q2
            have IW8 : IdRow w8 av nn cap g L D := by rw [hq2.out, hq1.out]; exact ⟨⟨IW.row.ok, IW.row.len, IW.row.le, IW.row.max, IW.row.val⟩, IW.take, IW.nil⟩
            have ID8 : IdRow w8 avd nn capd gd Ld D := by rw [hq2.out, hq1.out]; exact ⟨⟨ID.row.ok, ID.row.len, ID.row.le, ID.row.max, ID.row.val⟩, ID.take, ID.nil⟩
            have bB8 : Below B w w8 := by rw [hq2.out, hq1.out]; exact ⟨bB6.os, bB6.tape, bB6.output, bB6.size, bB6.block⟩
            have hat : 0 < R → Hid (aA = some ⟨N2, 0 + K * 18, none⟩) := fun h => by
              have h1 := HRn.out
              show aA = _
              rw [← HA.out, if_neg (by omega), (T8.at_ (by omega)).out]
              rw [Option.map_some, Addr.add_mid]
            clear T1 T2 T3 T4 T2' T4' IW ID hq1 hq2 bB6 hflag
            go_wp2
            go_loopw [17] (fun s17 wr => ∃ x q : Nat, s17 = .int .i64 x ∧ x ≤ R ∧ wr = w8.drewN q) (fun s17 _ => R - (intOf s17).toNat)
            case atStart => exact ⟨0, 0, rfl, Nat.zero_le _, rfl⟩
            case round =>
              obtain ⟨x, q, rfl, hx, rfl⟩ := hrel
              by_cases hxR : x < R
              · have bx : (x : Int) < (R : Int) := by omega
                have hKx : K + x < n := by have := HRn.out; omega
                have hx1 := fun (w : World) => idx_run (w := w) (t := 23) (e := 31) (cap := R) (size := 18) (hat (by omega)).out hxR Yba.underlying23 Pe.size31
                have hx2 := fun (w : World) => idx_run (w := w) (t := 23) (e := 31) (cap := n) (size := 18) (T8.at_ (by omega)).out hKx Yba.underlying23 Pe.size31
                have d2 : ∀ q', (Instr.loadAt 31 (.pointer (some ⟨N2, 0 + (K + x) * 18, none⟩))).run Yba.prog ((w8.drewN q).drewN q') = .ok (.agg (Pe.ec (EP (K + x)))) ((w8.drewN q).drewN q') := fun q' => ld_pe ((T8.drewN q).drewN q') hKx
                have d1 : ∀ q', (Instr.loadAt 31 (.pointer (some ⟨N2, 0 + K * 18 + x * 18, none⟩))).run Yba.prog ((w8.drewN q).drewN q') = .ok (.agg (Pe.ec (EP (K + x)))) ((w8.drewN q).drewN q') := fun q' => by have := d2 q'; rwa [show 0 + (K + x) * 18 = 0 + K * 18 + x * 18 by omega] at this
                have hE := T8.ok (K + x)
                go_wp2
                refine wp_region_quiet_lit (by kernel_rfl) (by kernel_rfl) ?_
                repeat (first
                  | (refine wq_index 23 (.tmp 133) (.tmp 134) rfl rfl (.slice aA R R) (.int .i64 x) (.pointer (some ⟨N2, 0 + K * 18 + x * 18, none⟩)) rfl rfl hx1 ?_; simp only [Act.put, List.setIfInBounds_toArray, List.set_cons_zero, List.set_cons_succ])
                  | (refine wq_index 23 (.tmp 137) (.tmp 140) rfl rfl (.slice aP n n) (.int .i64 (K + x : Nat)) (.pointer (some ⟨N2, 0 + (K + x) * 18, none⟩)) rfl rfl hx2 ?_; simp only [Act.put, List.setIfInBounds_toArray, List.set_cons_zero, List.set_cons_succ])
                  | (refine wq_load 31 (.tmp 135) rfl rfl (.pointer (some ⟨N2, 0 + K * 18 + x * 18, none⟩)) (.agg (Pe.ec (EP (K + x)))) rfl d1 ?_; simp only [Act.put, List.setIfInBounds_toArray, List.set_cons_zero, List.set_cons_succ])
                  | (refine wq_load 31 (.tmp 141) rfl rfl (.pointer (some ⟨N2, 0 + (K + x) * 18, none⟩)) (.agg (Pe.ec (EP (K + x)))) rfl d2 ?_; simp only [Act.put, List.setIfInBounds_toArray, List.set_cons_zero, List.set_cons_succ])
                  | (refine wq_bin .neq 31 (.tmp 136) (.tmp 142) 31 rfl rfl (.agg (Pe.ec (EP (K + x)))) (.agg (Pe.ec (EP (K + x)))) (.bool false) rfl rfl (fun w => gd31 _ _ _ _ w) (fun w => neq31 _ hE w) ?_; simp only [Act.put, List.setIfInBounds_toArray, List.set_cons_zero, List.set_cons_succ])
                  | go_big_quiet_step (fail))
                refine wpQuiet_nil ?_
                rintro w9 ⟨nq, rfl⟩
                clear hx1 hx2 d1 d2 hE
                go_wp2
                go_roundw
                case rel => exact ⟨x + 1, _, by go_num, by omega, rfl⟩
                case measure => simp [intOf]; omega
              · obtain rfl : R = x := by omega
                go_upto_region 36 with fail
                go_cut [154] from 144 to 154 (fun s154 wx => s154 = .bool false ∧ ∃ q, wx = w8.drewN q)
                case first =>
                  by_cases hR0 : 0 < R
                  · have bR : (0 : Int) < (R : Int) := by omega
                    have hKn2 : K < n := by have := HRn.out; omega
                    have hx1 : ∀ w : World, (Instr.indexAt 23 (.slice aA R R) (.int .i64 0)).run Yba.prog w = .ok (.pointer (some ⟨N2, 0 + K * 18, none⟩)) w := fun w => idx_run (w := w) (t := 23) (e := 31) (cap := R) (size := 18) (k := 0) (hat hR0).out hR0 Yba.underlying23 Pe.size31
                    have hx2 := fun (w : World) => idx_run (w := w) (t := 23) (e := 31) (cap := n) (size := 18) (T8.at_ (by omega)).out hKn2 Yba.underlying23 Pe.size31
                    refine wp_region_quiet_lit (by kernel_rfl) (by kernel_rfl) ?_
                    repeat (first
                      | (refine wq_index 23 (.tmp 148) (.const (.int .i64 0)) rfl rfl (.slice aA R R) (.int .i64 0) (.pointer (some ⟨N2, 0 + K * 18, none⟩)) rfl rfl hx1 ?_; simp only [Act.put, List.setIfInBounds_toArray, List.set_cons_zero, List.set_cons_succ])
                      | (refine wq_index 23 (.tmp 150) (.tmp 151) rfl rfl (.slice aP n n) (.int .i64 K) (.pointer (some ⟨N2, 0 + K * 18, none⟩)) rfl rfl hx2 ?_; simp only [Act.put, List.setIfInBounds_toArray, List.set_cons_zero, List.set_cons_succ])
                      | (refine wq_bin .neq 35 (.tmp 149) (.tmp 152) 35 rfl rfl (.pointer (some ⟨N2, 0 + K * 18, none⟩)) (.pointer (some ⟨N2, 0 + K * 18, none⟩)) (.bool false) rfl rfl (fun w => gdPtr _ _ _ _ w) (fun w => neqPtr _ w) ?_; simp only [Act.put, List.setIfInBounds_toArray, List.set_cons_zero, List.set_cons_succ])
                      | go_big_quiet_step (fail))
                    refine wpQuiet_nil ?_
                    rintro w9 ⟨nq, rfl⟩
                    go_wp2
                    go_meet
                    exact ⟨rfl, _, World.drewN_drewN ..⟩
                  · obtain rfl : R = 0 := by omega
                    refine wp_region_quiet_lit (by kernel_rfl) (by kernel_rfl) ?_
                    repeat (go_big_quiet_step (fail))
                    refine wpQuiet_nil ?_
                    rintro w9 ⟨nq, rfl⟩
                    go_wp2
                    go_meet
                    exact ⟨rfl, _, World.drewN_drewN ..⟩
                case rest =>
                  obtain ⟨rfl, q3, hq3⟩ := hcut
                  have IW9 : IdRow wc av nn cap g L D := by rw [hq3]; exact ⟨⟨IW8.row.ok, IW8.row.len, IW8.row.le, IW8.row.max, IW8.row.val⟩, IW8.take, IW8.nil⟩
                  have ID9 : IdRow wc avd nn capd gd Ld D := by rw [hq3]; exact ⟨⟨ID8.row.ok, ID8.row.len, ID8.row.le, ID8.row.max, ID8.row.val⟩, ID8.take, ID8.nil⟩
                  have bB9 : Below B w wc := by rw [hq3]; exact ⟨bB8.os, bB8.tape, bB8.output, bB8.size, bB8.block⟩
                  clear hq3 IW8 ID8 bB8 T8 hat
                  obtain ⟨bb, hbb⟩ : ∃ bb, decide (nn = 0) = bb := ⟨_, rfl⟩
                  have hb1 : Hid _ := ID9.nil.trans hbb
                  have hb2 : Hid _ := IW9.nil.trans hbb
                  clear hbb
                  go_wp2_with (first
                    | (refine at_op (.binOp .eql 32 (.tmp 155) (.const (.slice none 0 0)) 32) rfl ?_; refine wl_bin rfl .eql 32 (.tmp 155) (.const (.slice none 0 0)) 32 rfl (.slice avd nn capd) (.slice none 0 0) (.bool bb) rfl rfl (guard_nil _ _ _ _ _ _ _ _ _ _) (by rw [eql_nil32, hb1.out]) ?_)
                    | (refine at_op (.binOp .eql 32 (.tmp 157) (.const (.slice none 0 0)) 32) rfl ?_; refine wl_bin rfl .eql 32 (.tmp 157) (.const (.slice none 0 0)) 32 rfl (.slice av nn cap) (.slice none 0 0) (.bool bb) rfl rfl (guard_nil _ _ _ _ _ _ _ _ _ _) (by rw [eql_nil32, hb2.out]) ?_)
                    | (refine at_op (.binOp .neq 4 (.tmp 156) (.tmp 158) 4) rfl ?_; refine wl_bin rfl .neq 4 (.tmp 156) (.tmp 158) 4 rfl (.bool bb) (.bool bb) (.bool false) rfl rfl (gd4 _ _ _ _ _) (neq4 _ _) ?_))
                  go_loopw [18] (fun s18 wr => ∃ x q : Nat, s18 = .int .i64 x ∧ x ≤ nn ∧ wr = wc.drewN q) (fun s18 _ => nn - (intOf s18).toNat)
                  case atStart => exact ⟨0, 0, rfl, Nat.zero_le _, rfl⟩
                  case round =>
                    obtain ⟨x, q, rfl, hx, rfl⟩ := hrel
                    by_cases hxn : x < nn
                    · have bx : (x : Int) < (nn : Int) := by omega
                      have hx1 := fun (w : World) => idx_run (w := w) (t := 32) (e := 28) (cap := capd) (size := 16) (ID9.at_ (by omega)).1 hxn Yba.underlying32 Id.size28
                      have hx2 := fun (w : World) => idx_run (w := w) (t := 32) (e := 28) (cap := cap) (size := 16) (IW9.at_ (by omega)).1 hxn Yba.underlying32 Id.size28
                      have d1 : ∀ q', (Instr.loadAt 28 (.pointer (some ⟨gd, 0 + x * 16, none⟩))).run Yba.prog ((wc.drewN q).drewN q') = .ok (.agg (kc (D.getD x Id.z0))) ((wc.drewN q).drewN q') := fun q' => ld_key (w := (wc.drewN q).drewN q') ⟨⟨ID9.row.ok, ID9.row.len, ID9.row.le, ID9.row.max, ID9.row.val⟩, ID9.take, ID9.nil⟩ hxn
                      have d2 : ∀ q', (Instr.loadAt 28 (.pointer (some ⟨g, 0 + x * 16, none⟩))).run Yba.prog ((wc.drewN q).drewN q') = .ok (.agg (kc (D.getD x Id.z0))) ((wc.drewN q).drewN q') := fun q' => ld_key (w := (wc.drewN q).drewN q') ⟨⟨IW9.row.ok, IW9.row.len, IW9.row.le, IW9.row.max, IW9.row.val⟩, IW9.take, IW9.nil⟩ hxn
                      have hDl : (D.getD x Id.z0).length = 16 := by
                        rw [← ID9.take]
                        have : ((Ld.take nn).getD x Id.z0) = Ld.getD x Id.z0 := by simp [List.getD, List.getElem?_take_of_lt hxn]
                        rw [this]
                        exact ID9.row.ok.getD x
                      go_wp2
                      refine wp_region_quiet_lit (by kernel_rfl) (by kernel_rfl) ?_
                      repeat (first
                        | (refine wq_index 32 (.tmp 173) (.tmp 174) rfl rfl (.slice avd nn capd) (.int .i64 x) (.pointer (some ⟨gd, 0 + x * 16, none⟩)) rfl rfl hx1 ?_; simp only [Act.put, List.setIfInBounds_toArray, List.set_cons_zero, List.set_cons_succ])
                        | (refine wq_index 32 (.tmp 177) (.tmp 178) rfl rfl (.slice av nn cap) (.int .i64 x) (.pointer (some ⟨g, 0 + x * 16, none⟩)) rfl rfl hx2 ?_; simp only [Act.put, List.setIfInBounds_toArray, List.set_cons_zero, List.set_cons_succ])
                        | (refine wq_load 28 (.tmp 175) rfl rfl (.pointer (some ⟨gd, 0 + x * 16, none⟩)) (.agg (kc (D.getD x Id.z0))) rfl d1 ?_; simp only [Act.put, List.setIfInBounds_toArray, List.set_cons_zero, List.set_cons_succ])
                        | (refine wq_load 28 (.tmp 179) rfl rfl (.pointer (some ⟨g, 0 + x * 16, none⟩)) (.agg (kc (D.getD x Id.z0))) rfl d2 ?_; simp only [Act.put, List.setIfInBounds_toArray, List.set_cons_zero, List.set_cons_succ])
                        | (refine wq_bin .neq 28 (.tmp 176) (.tmp 180) 28 rfl rfl (.agg (kc (D.getD x Id.z0))) (.agg (kc (D.getD x Id.z0))) (.bool false) rfl rfl (fun w => gd28 _ _ _ _ _ w (.inr rfl)) (fun w => by rw [neq28 _ _ hDl hDl w]; simp) ?_; simp only [Act.put, List.setIfInBounds_toArray, List.set_cons_zero, List.set_cons_succ])
                        | go_big_quiet_step (fail))
                      refine wpQuiet_nil ?_
                      rintro w9 ⟨nq, rfl⟩
                      clear hx1 hx2 d1 d2 hDl
                      go_wp2
                      go_roundw
                      case rel => exact ⟨x + 1, _, by go_num, by omega, rfl⟩
                      case measure => simp [intOf]; omega
                    · obtain rfl : nn = x := by omega
                      go_wp2
                      go_ret
                      exact ⟨rfl, bB9.os, bB9.tape, bB9.output, bB9.size, bB9.block⟩
end Go.Proofs.Ybulkdudm
