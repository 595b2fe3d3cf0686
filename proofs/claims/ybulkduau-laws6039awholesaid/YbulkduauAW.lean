/-
  'sim.LawS6039AWhole': the walk.
-/
import Derived.Test.YbulkduauAW0
import Derived.Deep.CutBlock
namespace Go.Proofs.Ybulkduau
open Go.RowKit Go.Split
open Extern.Stop (cell)

theorem ec_all {e : Ev} (he : e.to.length = 20) : (ec e).extract 0 (0 + 25) = ec e := by
  have := ec_size he
  apply Array.ext'
  simp
  rw [List.take_of_length_le (by simp; omega)]
theorem built39 (a : Option Addr) (n c : Nat) : Yba.prog.built 39 [(0, .slice a n c)] = some #[.slice a n c] := by kernel_rfl

set_option maxRecDepth 100000 in
set_option maxHeartbeats 2000000 in
theorem lawAW_any (w : World) (ao : Option Addr) (m cap b off B : Nat) (t s : Nat → Int) (u : Nat → UInt8) (tn sn : Int) (un : UInt8) (hB : w.heap.size = B)
    (hao : 0 < m → Hid (ao = some ⟨b, off, none⟩)) (hb : 0 < m → b < B) (hit : ∀ i, i < m → w.rangeAt b (off + i * 3) (pc (t i) (s i) (u i).toNat).toList) (hm : m ≤ 1048576) :
    Calls Yba.prog 3 #[.slice ao m cap, .agg (pc tn sn un.toNat)] w fun r w1 => r = .returned (.bool true) ∧ Below B w w1 := by
  have hE : ∃ E : Nat → Ev, (∀ i, E i = ⟨t i, s i, idOf (u i)⟩) ∧ ∀ i, (E i).to.length = 20 := ⟨fun i => ⟨t i, s i, idOf (u i)⟩, fun _ => rfl, fun i => idOf_length _⟩
  obtain ⟨E, hEi, hE⟩ := hE
  obtain ⟨e, he⟩ : ∃ e : Ev, e = ⟨tn, sn, idOf un⟩ := ⟨_, rfl⟩
  have hel : e.to.length = 20 := by rw [he]; exact idOf_length _
  have HE : Hid _ := hEi
  have He : Hid _ := he
  clear hEi he
  have hmi : ¬ ((1048576 : Int) < (m : Int)) := by omega
  go_enter Yba.func3, Yba.ntmps3
  go_wp2_with (first
    | (refine at_op (.box 25 (.tmp 1)) rfl ?_; refine wl_box rfl 25 (.tmp 1) rfl (.agg (pc tn sn un.toNat)) rfl B hB ?_; intro w1 u1)
    | (refine at_op (.makeSlice 26 (.tmp 19) (.tmp 19)) rfl ?_; refine wl_make rfl (.tmp 19) (.tmp 19) 26 rfl 34 _ 25 72 Yba.underlying26 info34 .i64 .i64 m rfl rfl (by omega) (by unfold maxLen; omega) (B + 1) (u1.size_new hB) ?_; intro w2 u2; rw [made_ecs] at u2)
    | (refine at_op (.makeSlice 26 (.tmp 22) (.tmp 22)) rfl ?_; refine wl_make rfl (.tmp 22) (.tmp 22) 26 rfl 34 _ 25 72 Yba.underlying26 info34 .i64 .i64 (m + 1) rfl rfl (by omega) (by unfold maxLen; omega) (B + 2) (u2.size_new (u1.size_new hB)) ?_; intro w3 u3; rw [made_ecs] at u3))
  have I0 : AInv w w3 B m 0 E (pc tn sn un.toNat) := by
    have s1 := u1.size; have s2 := u2.size; have s3 := u3.size
    refine ⟨u3.keep (by omega) (u2.keep (by omega) u1.here), ?_, ?_, by omega, ((u1.below (by omega)).trans (u2.below (by omega))).trans (u3.below (by omega))⟩
    · rw [rowOf_zero]; exact u3.keep (by omega) u2.here
    · rw [rowOf_zero]; exact u3.here
  clear u1 u2 u3
  go_loopw [8] (fun i wr => ∃ k : Nat, k ≤ m ∧ i = .int .i64 k ∧ AInv w wr B m k E (pc tn sn un.toNat)) (fun i _ => m - (intOf i).toNat)
  case atStart => exact ⟨0, Nat.zero_le _, rfl, I0⟩
  case round =>
    obtain ⟨k, hk, rfl, I⟩ := hrel
    clear I0
    by_cases hlt : k < m
    · have hlti : (k : Int) < (m : Int) := by omega
      obtain ⟨M, hM⟩ : ∃ M, wr.heap.size = M := ⟨_, rfl⟩
      have hMs := I.size
      have hr := Below.range I.below (hb (by omega)) (hit k hlt)
      have ok1 := rowOf_ok hE m k
      have ok2 := rowOf_ok hE (m + 1) k
      have zk := ec_size (hE k)
      have z1 : 0 + k * 25 + (ec (E k)).size ≤ (ecs (rowOf E m k)).size := by rw [zk, ecs_size _ ok1, rowOf_length]; omega
      have z2 : 0 + k * 25 + (ec (E k)).size ≤ (ecs (rowOf E (m + 1) k)).size := by rw [zk, ecs_size _ ok2, rowOf_length]; omega
      have d1 : Hid _ := ecs_set ok1 (hE k) (i := k) (by rw [rowOf_length]; exact hlt)
      have d2 : Hid _ := ecs_set ok2 (hE k) (i := k) (by rw [rowOf_length]; omega)
      go_wp2_with (first
        | (refine at_op (.indexAddr 22 (.tmp 31) (.tmp 32)) rfl ?_; refine wl_index rfl 22 (.tmp 31) (.tmp 32) rfl ao m cap rfl .i64 k rfl b off (hao (by omega)).out hlt 25 3 Yba.underlying22 size25 ?_)
        | (refine at_op (.load 25 (.tmp 33)) rfl ?_; refine wl_load_arr rfl 25 (.tmp 33) rfl b (off + k * 3) (pc (t k) (s k) (u k).toNat) rfl hr _ Yba.underlying25 rfl size25 ?_)
        | (go_at_call 7; refine (mk_any wr (t k) (s k) (u k) M hM).mono ?_; rintro _ wa ⟨rfl, hsa, ba⟩; rw [← HE.out k])
        | (refine at_op (.indexAddr 26 (.tmp 29) (.tmp 30)) rfl ?_; refine wl_index rfl 26 (.tmp 29) (.tmp 30) rfl _ m m rfl .i64 k rfl (B + 1) 0 rfl hlt 34 25 Yba.underlying26 size34 ?_)
        | (refine at_op (.store 34 (.tmp 36) (.tmp 35)) rfl ?_; refine wl_store_mid rfl 34 (.tmp 36) (.tmp 35) rfl (B + 1) (0 + k * 25) (ec (E k)) (ecs (rowOf E m k)) 34 rfl rfl ((ba.block _ (by omega)).trans I.evs) z1 (by rw [size34, zk]) (ec_one _) _ d1.out ?_; intro wb ub; have hr2 := Below.range ((I.below.trans (ba.mono (by omega))).trans (ub.below (B := B) (by omega))) (hb (by omega)) (hit k hlt); have hsb : wb.heap.size = M + 3 := by (have := ub.size; omega))
        | (refine at_op (.indexAddr 22 (.tmp 39) (.tmp 40)) rfl ?_; refine wl_index rfl 22 (.tmp 39) (.tmp 40) rfl ao m cap rfl .i64 k rfl b off (hao (by omega)).out hlt 25 3 Yba.underlying22 size25 ?_)
        | (refine at_op (.load 25 (.tmp 41)) rfl ?_; refine wl_load_arr rfl 25 (.tmp 41) rfl b (off + k * 3) (pc (t k) (s k) (u k).toNat) rfl hr2 _ Yba.underlying25 rfl size25 ?_)
        | (go_at_call 7; refine (mk_any wb (t k) (s k) (u k) (M + 3) hsb).mono ?_; rintro _ wc ⟨rfl, hsc, bc⟩; rw [← HE.out k])
        | (refine at_op (.indexAddr 26 (.tmp 37) (.tmp 38)) rfl ?_; refine wl_index rfl 26 (.tmp 37) (.tmp 38) rfl _ (m + 1) (m + 1) rfl .i64 k rfl (B + 2) 0 rfl (by omega) 34 25 Yba.underlying26 size34 ?_)
        | (refine at_op (.store 34 (.tmp 44) (.tmp 43)) rfl ?_; refine wl_store_mid rfl 34 (.tmp 44) (.tmp 43) rfl (B + 2) (0 + k * 25) (ec (E k)) (ecs (rowOf E (m + 1) k)) 34 rfl rfl ((bc.block _ (by omega)).trans ((ub.other _ (by omega)).trans ((ba.block _ (by omega)).trans I.want))) z2 (by rw [size34, zk]) (ec_one _) _ d2.out ?_; intro wd ud))
      go_roundw
      case rel => exact ⟨k + 1, by omega, by go_num, I.next hM ba ub (by omega) hsb bc ud⟩
      case measure => simp [intOf]; omega
    · obtain rfl : m = k := by omega
      obtain ⟨M, hM⟩ : ∃ M, wr.heap.size = M := ⟨_, rfl⟩
      have hMs := I.size
      go_upto_block 2 with (first
        | (refine at_op (.load 25 (.tmp 3)) rfl ?_; refine wl_load_agg rfl 25 (.tmp 3) rfl B 0 3 (pc tn sn un.toNat) 25 (0, 0) rfl I.n (by simp [pc]) _ Yba.underlying25 rfl size25 ?_; refine (show wpList _ _ _ _ (Act.put _ _ (.agg (pc tn sn un.toNat))) _ from ?_))
        | (go_at_call 7; refine (mk_any wr tn sn un M hM).mono ?_; rintro _ wa ⟨rfl, hsa, ba⟩; rw [← He.out])
        | (refine at_op (.alloc 34) rfl ?_; refine wl_alloc rfl 34 rfl _ zero34 (M + 3) hsa ?_; intro wb ub)
        | (refine at_op (.store 34 (.tmp 9) (.tmp 46)) rfl ?_; refine wl_store_row rfl 34 (.tmp 9) (.tmp 46) rfl (M + 3) (ec e) (ec z0) 34 rfl rfl ub.here (by rw [ec_size hel, ec_size (e := z0) rfl]) (by rw [size34, ec_size hel]) (ec_one _) ?_; intro wc uc))
      have W0 : WInv w wc B m (M + 3) E (climb m (rowOf E (m + 1) m) m e) e m (rowOf E (m + 1) m) :=
        ⟨uc.keep (by omega) (ub.keep (by omega) ((ba.block _ (by omega)).trans I.evs)), uc.keep (by omega) (ub.keep (by omega) ((ba.block _ (by omega)).trans I.want)), uc.here, by omega, rowOf_length _ _ _, rowOf_ok hE _ _, rfl, ((I.below.trans (ba.mono (by omega))).trans (ub.below (by omega))).trans (uc.below (by omega))⟩
      clear I ba ub uc hsa hM
      go_cut [10, 11] from 48 to 67 (fun s10 _ wx => ∃ (k : Nat) (h : List Ev), k ≤ m ∧ s10 = .int .i64 k ∧ WInv w wx B m (M + 3) E (climb m (rowOf E (m + 1) m) m e) e k h ∧ climb k h k e = h.set k e)
      case first =>
        go_wp2_with fail
        go_loopw [10] (fun i wr => ∃ (k : Nat) (h : List Ev), k ≤ m ∧ i = .int .i64 k ∧ WInv w wr B m (M + 3) E (climb m (rowOf E (m + 1) m) m e) e k h) (fun i _ => (intOf i).toNat)
        case atStart => exact ⟨m, _, Nat.le_refl _, rfl, W0⟩
        case round =>
          obtain ⟨k, h, hk, rfl, I⟩ := hrel
          clear W0
          by_cases hk0 : 0 < k
          · have b0 : (0 : Int) < (k : Int) := by omega
            obtain ⟨p, hp⟩ : ∃ p, p = (k - 1) / 2 := ⟨_, rfl⟩
            have HP : Hid (p = (k - 1) / 2) := hp
            have hpk : p < k := by omega
            have hq : ∀ w : World, (binOp .quo 3 (.int .i64 ((k : Int) - 1)) (.int .i64 2)).run Yba.prog w = .ok (.int .i64 (p : Int)) w := fun w => quo_run hk0 (by omega) hp w
            clear hp
            go_wp2_with (first
              | (refine at_op (.binOp .quo 3 (.tmp 51) (.const (.int .i64 2)) 3) rfl ?_; refine wl_bin rfl .quo 3 (.tmp 51) (.const (.int .i64 2)) 3 rfl (.int .i64 ((k : Int) - 1)) (.int .i64 2) (.int .i64 (p : Int)) rfl rfl (guard_quo _ _ _ _ _) (hq _) ?_))
            have hcl := I.len
            have bp0 : (0 : Int) ≤ (p : Int) := by omega
            have bp1 : (p : Int) < (m : Int) + 1 := by omega
            have l1 : (Instr.loadAt 34 (.pointer (some ⟨M + 3, 0, none⟩))).run Yba.prog wr.drew = .ok (.agg (ec e)) wr.drew := ld34 (w := wr.drew) I.ev hel
            have l2 : (Instr.loadAt 34 (.pointer (some ⟨B + 2, p * 25, none⟩))).run Yba.prog wr.drew = .ok (.agg (ec (h.getD p z0))) wr.drew := ld34row (w := wr.drew) (i := p) I.want I.ok (by omega)
            refine wp_region_cut mixed [0, 1, 2, 3, 4] 5 [6] (by kernel_rfl) (by kernel_rfl) (fun c a d v w h => by cases d <;> exact h) ?_
            simp only [List.filterMap_cons, List.filterMap_nil, List.getElem?_toArray, List.getElem?_cons_zero, List.getElem?_cons_succ]
            refine (show wpQuiet _ _ _ _ [_, _, _, _, _] _ from ?_)
            repeat (first
              | go_big_quiet_step (fail)
              | (refine ws_load 34 (.tmp 9) rfl rfl (.pointer (some ⟨M + 3, 0, none⟩)) (.agg (ec e)) rfl l1 ?_; simp only [Act.put, List.setIfInBounds_toArray, List.set_cons_zero, List.set_cons_succ])
              | (refine ws_load 34 (.tmp 56) rfl rfl (.pointer (some ⟨B + 2, p * 25, none⟩)) (.agg (ec (h.getD p z0))) rfl l2 ?_; simp only [Act.put, List.setIfInBounds_toArray, List.set_cons_zero, List.set_cons_succ]))
            refine wpQuiet_nil (show wpList _ _ _ [_, _] _ _ from ?_)
            clear l1 l2
            have hlt := lt_of_heap I.ev
            obtain ⟨M2, hM2⟩ : ∃ M2, wr.drew.heap.size = M2 := ⟨_, rfl⟩
            have hsw : wr.drew.heap.size = wr.heap.size := rfl
            cases hdue : due e (h.getD p z0) with
            | false =>
              go_wp2_with (go_at_call 8; refine (less_any wr.drew e (h.getD p z0) M2 hM2).mono ?_; rintro _ w5 ⟨rfl, hs5, b5⟩; rw [hdue])
              go_meet
              exact ⟨k, h, hk, rfl, (I.later (by omega) (show Below M2 wr w5 from ⟨b5.os, b5.tape, b5.output, b5.size, b5.block⟩)), climb_stop (fun _ => by rw [← HP.out]; exact hdue)⟩
            | true =>
              go_wp2_with (first
                | (go_at_call 8; refine (less_any wr.drew e (h.getD p z0) M2 hM2).mono ?_; rintro _ w5 ⟨rfl, hs5, b5⟩; rw [hdue]; have J := (I.later (by omega) (show Below M2 wr w5 from ⟨b5.os, b5.tape, b5.output, b5.size, b5.block⟩)); have hep := J.ok.getD p; have d1 : Hid _ := ecs_set J.ok hep (i := k) (by omega); have z1 : 0 + k * 25 + (ec (h.getD p z0)).size ≤ (ecs h).size := (by rw [ec_size hep, ecs_size _ J.ok]; omega); have z2 : 0 + p * 25 + 25 ≤ (ecs h).size := (by rw [ecs_size _ J.ok]; omega))
                | (refine at_op (.indexAddr 26 (.tmp 62) (.tmp 63)) rfl ?_; refine wl_index rfl 26 (.tmp 62) (.tmp 63) rfl _ (m + 1) (m + 1) rfl .i64 p rfl (B + 2) 0 rfl (by omega) 34 25 Yba.underlying26 size34 ?_)
                | (refine at_op (.load 34 (.tmp 64)) rfl ?_; refine wl_load_agg rfl 34 (.tmp 64) rfl (B + 2) (0 + p * 25) 25 (ecs h) 34 (0, 0) rfl J.want z2 _ Yba.underlying34 rfl size34 ?_; rw [ecs_extract J.ok (by omega)])
                | (refine at_op (.indexAddr 26 (.tmp 60) (.tmp 61)) rfl ?_; refine wl_index rfl 26 (.tmp 60) (.tmp 61) rfl _ (m + 1) (m + 1) rfl .i64 k rfl (B + 2) 0 rfl (by omega) 34 25 Yba.underlying26 size34 ?_)
                | (refine at_op (.store 34 (.tmp 66) (.tmp 65)) rfl ?_; refine wl_store_mid rfl 34 (.tmp 66) (.tmp 65) rfl (B + 2) (0 + k * 25) (ec (h.getD p z0)) (ecs h) 34 rfl rfl J.want z1 (by rw [size34, ec_size hep]) (ec_one _) _ d1.out ?_; intro w6 u6))
              go_roundw
              case rel => exact ⟨p, _, by omega, rfl, J.up hk0 HP.out hdue u6⟩
              case measure => simp [intOf]; omega
          · obtain rfl : k = 0 := by omega
            go_wp2
            go_meet
            exact ⟨0, h, hk, rfl, I, climb_stop (fun h => by omega)⟩
      case rest =>
        obtain ⟨k, h, hk, rfl, I, hstop⟩ := hcut
        clear W0
        have hlt := lt_of_heap I.ev
        have hcl := I.len
        have hltE := I.lt
        have z1 : 0 + k * 25 + (ec e).size ≤ (ecs h).size := by rw [ec_size hel, ecs_size _ I.ok]; omega
        have d1 : Hid (putCells (ecs h) (0 + k * 25) (ec e).toList = ecs (climb m (rowOf E (m + 1) m) m e)) := by
          have := ecs_set I.ok hel (i := k) (by omega)
          rw [← hstop, I.goal] at this
          exact this
        have okT : evsOk (climb m (rowOf E (m + 1) m) m e) := by rw [← I.goal, hstop]; exact I.ok.set hel k
        have lenT : (climb m (rowOf E (m + 1) m) m e).length = m + 1 := by rw [climb_length, rowOf_length]
        have hT : climb m ((rowOf E m m).take m ++ [e]) m e = climb m (rowOf E (m + 1) m) m e := (climb_row E m e).symm
        obtain ⟨T, hTT⟩ : ∃ T, T = climb m (rowOf E (m + 1) m) m e := ⟨_, rfl⟩
        rw [← hTT] at d1 okT lenT hT I
        clear hTT
        obtain ⟨M2, hM2⟩ : ∃ M2, wc.heap.size = M2 := ⟨_, rfl⟩
        go_wp2_with (first
          | (refine at_op (.load 34 (.tmp 9)) rfl ?_; refine wl_load_agg rfl 34 (.tmp 9) rfl (M + 3) 0 25 (ec e) 34 (0, 0) rfl I.ev (by rw [ec_size hel]; decide) _ Yba.underlying34 rfl size34 ?_; rw [ec_all hel])
          | (refine at_op (.indexAddr 26 (.tmp 68) (.tmp 69)) rfl ?_; refine wl_index rfl 26 (.tmp 68) (.tmp 69) rfl _ (m + 1) (m + 1) rfl .i64 k rfl (B + 2) 0 rfl (by omega) 34 25 Yba.underlying26 size34 ?_)
          | (refine at_op (.store 34 (.tmp 71) (.tmp 70)) rfl ?_; refine wl_store_mid rfl 34 (.tmp 71) (.tmp 70) rfl (B + 2) (0 + k * 25) (ec e) (ecs h) 34 rfl rfl I.want z1 (by rw [size34, ec_size hel]) (ec_one _) _ d1.out ?_; intro wd ud)
          | (refine at_op (.build 39 #[(0, .tmp 72)]) rfl ?_; refine wl_build rfl 39 #[(0, .tmp 72)] rfl [(0, .slice (some ⟨B + 1, 0, none⟩) m m)] #[.slice (some ⟨B + 1, 0, none⟩) m m] rfl (built39 _ _ _) ?_)
          | (refine at_op (.box 39 (.tmp 73)) rfl ?_; refine wl_box rfl 39 (.tmp 73) rfl (.agg #[.slice (some ⟨B + 1, 0, none⟩) m m]) rfl M2 (by have := ud.size; omega) ?_; intro we ue)
          | (refine at_op (.load 34 (.tmp 9)) rfl ?_; refine wl_load_agg rfl 34 (.tmp 9) rfl (M + 3) 0 25 (ec e) 34 (0, 0) rfl (by exact ue.keep (by omega) (ud.keep (by omega) I.ev)) (by rw [ec_size hel]; decide) _ Yba.underlying34 rfl size34 ?_; rw [ec_all hel])
          | (go_at_call 9; refine (hpush_any we M2 (B + 1) m m (M2 + 1) (.slice (some ⟨B + 1, 0, none⟩) m m) (rowOf E m m) e hel (by have := ud.size; have := ue.size; omega) ue.here ⟨rowOf_ok hE _ _, rowOf_length _ _ _, Nat.le_refl _, by unfold maxLen; omega, .inr ⟨rfl, ue.keep (by omega) (ud.keep (by omega) I.evs)⟩⟩ (by omega) hm).mono ?_; rintro _ wf ⟨rfl, g1, cap1, L1, A⟩; have hc26 := (cell_of_row wf M2 0 _ _ _ A.q); simp only [List.getElem?_toArray, List.getElem?_cons_zero] at hc26))
        have hg1 : g1 = B + 1 ∨ M2 + 1 ≤ g1 := (match A.wh with | .inl hw => .inl hw.1 | .inr hw => .inr hw)
        have hwant : wf.heap[B + 2]? = some (.cells (ecs T) 34 (0, 0)) := (A.other _ (by omega) (by omega) (by omega)).trans (ue.keep (by omega) ud.here)
        have hfB : Below B w wf := by
          have b1 := ud.below (B := B) (by omega)
          have b2 := ue.below (B := B) (by omega)
          have b3 : Below B we wf := ⟨A.os, A.tape, A.output, by have := A.size; have := ue.size; have := ud.size; omega, fun j hj => A.other j (by omega) (by omega) (by omega)⟩
          exact ((I.below.trans b1).trans b2).trans b3
        have hLT : ∀ j, j < m + 1 → L1.getD j z0 = T.getD j z0 := fun j hj => by rw [← hT, ← A.take, getD_take hj]
        have hrow : wf.heap[g1]? = some (.cells (ecs L1) 34 (0, 0)) := by
          rcases A.row.val with ⟨h, _⟩ | ⟨_, h⟩
          · cases h
          · exact h
        have okL := A.row.ok
        have lenL := A.row.len
        have leL := A.row.le
        have hQf := A.q
        obtain ⟨M3, hM3⟩ : ∃ M3, wf.heap.size = M3 := ⟨_, rfl⟩
        have hQl := lt_of_heap hQf
        have hgl := lt_of_heap hrow
        have hwl := lt_of_heap hwant
        clear A ud ue I hc26 d1 hstop hT hM2
        go_loopw [13] (fun i wr => ∃ k : Nat, k ≤ m + 1 ∧ i = .int .i64 k ∧ Below M3 wf wr) (fun i _ => m + 1 - (intOf i).toNat)
        case atStart => exact ⟨0, Nat.zero_le _, rfl, Below.refl _ _⟩
        case round =>
          obtain ⟨j, hj, rfl, J⟩ := hrel
          by_cases hjm : j ≤ m
          · have bj : (j : Int) ≤ (m : Int) := by omega
            have bj0 : (0 : Int) ≤ (j : Int) := by omega
            have bj1 : (j : Int) < (m : Int) + 1 := by omega
            have hc26 : wr.drew.cell? ⟨M2, 0, none⟩ = some (.slice (some ⟨g1, 0, none⟩) (m + 1) cap1) := (cell_of_row wr M2 0 _ _ _ ((J.block _ (by omega)).trans hQf)).trans rfl
            have l1 : (Instr.loadAt 34 (.pointer (some ⟨g1, j * 25, none⟩))).run Yba.prog wr.drew = .ok (.agg (ec (T.getD j z0))) wr.drew := by
              rw [← hLT j (by omega)]
              exact ld34row (w := wr.drew) (i := j) ((J.block _ (by omega)).trans hrow) okL (by omega)
            have l2 : (Instr.loadAt 34 (.pointer (some ⟨B + 2, j * 25, none⟩))).run Yba.prog wr.drew = .ok (.agg (ec (T.getD j z0))) wr.drew := ld34row (w := wr.drew) (i := j) ((J.block _ (by omega)).trans hwant) okT (by omega)
            go_wp2
            refine wp_region_cut mixed [0, 1, 2, 3, 4, 5, 6, 7, 8, 9, 10] 11 [12] (by kernel_rfl) (by kernel_rfl) (fun c a d v w h => by cases d <;> exact h) ?_
            simp only [List.filterMap_cons, List.filterMap_nil, List.getElem?_toArray, List.getElem?_cons_zero, List.getElem?_cons_succ]
            refine (show wpQuiet _ _ _ _ [_, _, _, _, _, _, _, _, _, _, _] _ from ?_)
            repeat (first
              | go_big_quiet_step (fail)
              | (refine ws_load 34 (.tmp 96) rfl rfl (.pointer (some ⟨g1, j * 25, none⟩)) (.agg (ec (T.getD j z0))) rfl l1 ?_; simp only [Act.put, List.setIfInBounds_toArray, List.set_cons_zero, List.set_cons_succ])
              | (refine ws_load 34 (.tmp 100) rfl rfl (.pointer (some ⟨B + 2, j * 25, none⟩)) (.agg (ec (T.getD j z0))) rfl l2 ?_; simp only [Act.put, List.setIfInBounds_toArray, List.set_cons_zero, List.set_cons_succ]))
            refine wpQuiet_nil (show wpList _ _ _ [_, _] _ _ from ?_)
            clear l1 l2 hc26
            obtain ⟨M4, hM4⟩ : ∃ M4, wr.drew.heap.size = M4 := ⟨_, rfl⟩
            have hsw : wr.drew.heap.size = wr.heap.size := rfl
            have hsj := J.size
            go_wp2_with (go_at_call 10; refine (same_any wr.drew (T.getD j z0) (okT.getD j) M4 hM4).mono ?_; rintro _ w5 ⟨rfl, hs5, b5⟩)
            go_roundw
            case rel => exact ⟨j + 1, by omega, by go_num, J.trans (show Below M3 wr w5 from ⟨b5.os, b5.tape, b5.output, b5.size, fun x hx => b5.block x (by omega)⟩)⟩
            case measure => simp [intOf]; omega
          · obtain rfl : j = m + 1 := by omega
            go_wp2
            go_ret
            exact ⟨rfl, hfB.trans (J.mono (by omega))⟩
end Go.Proofs.Ybulkduau
