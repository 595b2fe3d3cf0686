/-
  'destroy', as the law calls it: what the memory holds behind it.
-/
import Derived.Test.YbulkdufcEng2
namespace Go.Proofs.Ybulkdufc
open Go.RowKit Go.Split
/-- The owner's map behind 'destroy'. -/
structure MineOK (es : Array MapEntry) (B : Nat) (ow ow2 : ByteArray) (kept st : Bool) : Prop where
  find : ∀ w : World, (Instr.findKey 9 (.string ow) es.toList).run Yba.prog w = .ok (bif kept then some (0, .pointer (some ⟨B + 13, 0, none⟩)) else none) w
  find2 : st = true → ∃ i, ∀ w : World, (Instr.findKey 9 (.string ow2) es.toList).run Yba.prog w = .ok (some (i, .pointer (some ⟨B + 15, 0, none⟩))) w
  size : es.size = (bif kept then 1 else 0) + (bif st then 1 else 0)
def mineF (B : Nat) (ow ow2 : ByteArray) (st kept : Bool) : Array MapEntry := bif kept then mineE B ow ow2 st else bif st then #[ent (.string ow2) (pa B 15) 1] else #[]
theorem mineF_eq (B : Nat) (ow ow2 : ByteArray) (st kept : Bool) : mineF B ow ow2 st kept = bif kept then mineE B ow ow2 st else (mineE B ow ow2 st).eraseIdxIfInBounds 0 := by
  cases kept <;> cases st <;> simp [mineF, mineE, Array.eraseIdxIfInBounds]
theorem mine_ok (B : Nat) (ow ow2 : ByteArray) (st kept : Bool) (h : st = true → ow2 ≠ ow) : MineOK (mineF B ow ow2 st kept) B ow ow2 kept st := by
  cases kept with
  | false =>
    cases st with
    | false => exact ⟨fun w => find_nil w Yba.underlying9 _, fun e => Bool.noConfusion e, rfl⟩
    | true =>
      have hne := h rfl
      exact ⟨fun w => find_miss w Yba.underlying9 _ _ _ _ (diff_str (fun e => hne e.symm)), fun _ => ⟨0, fun w => find_hit w Yba.underlying9 _ _ _ _ (same_str ow2)⟩, rfl⟩
  | true =>
    cases st with
    | false => exact ⟨fun w => find_hit w Yba.underlying9 _ _ _ _ (same_str ow), fun e => Bool.noConfusion e, rfl⟩
    | true =>
      have hne := h rfl
      exact ⟨fun w => find_hit w Yba.underlying9 _ _ _ _ (same_str ow), fun _ => ⟨1, fun w => find_hit2 w Yba.underlying9 _ _ _ _ _ _ (diff_str hne) (same_str ow2)⟩, rfl⟩
/-- What the law's tests read, but the sessions. -/
structure FinE (L : List Obj) (B : Nat) (id : Int) (ow ow2 : ByteArray) (st kept : Bool) (jo jt : Nat) (pc1 pu1 : Option Addr) (r : Int) : Prop where
  tab : ∃ CT, L[8]? = some (.cells CT 44 (0, 0)) ∧ Tab CT B
  cli : ∃ CC ow m0, L[10]? = some (.cells CC 57 (0, 0)) ∧ Cli CC id ow m0 (B + 9)
  clients : (r = 2 ∧ L[0]? = some (.map #[ent (.int .u64 id) (pa B 12) 0] 1)) ∨ (r ≠ 2 ∧ ∃ c, L[0]? = some (.map #[] c))
  mine : ∃ es c, L[jo]? = some (.map es c) ∧ MineOK es B ow ow2 kept st
  theirs : L[jt]? = some (.map #[ent (.string ow) (.pointer (some ⟨B + 14, 0, none⟩)) 0] 1)
  o : L[13]? = some (.cells #[.pointer pc1, .pointer pu1] 60 (0, 0))
  keep : L[14]? = some (.cells #[.pointer (some ⟨B + 12, 0, none⟩), .pointer none] 60 (0, 0))
  strg : st = true → L[15]? = some (.cells #[.pointer none, .pointer (some ⟨B + 12, 0, none⟩)] 60 (0, 0))
  cses : ∃ c, L[9]? = some (.map #[] c)
  e5 : L[5]? = some (.map #[] 0)
  e6 : L[6]? = some (.map #[] 0)
  e7 : L[7]? = some (.map #[] 0)
/-- .. the sessions, where there are none. -/
structure FinN (L : List Obj) : Prop where
  sess : L[3]? = some (.map #[] 0)
  conns : L[4]? = some (.map #[] 0)
/-- .. the sessions. -/
structure FinS (L : List Obj) (B n : Nat) (id conn : Int) : Prop where
  sess : L[3]? = some (.map #[ent (.agg (kc (sid 2))) (.pointer (some ⟨B + (n + 5), 0, none⟩)) 1] 2)
  conns : L[4]? = some (.map #[ent (.int .u64 conn) (.map (some (B + (n + 6)))) 0] 1)
  s : ∃ CS c, L[n + 3]? = some (.cells CS 73 (0, 0)) ∧ Ses CS 1 c (B + (n + 2))
  s2 : ∃ CS c, L[n + 5]? = some (.cells CS 73 (0, 0)) ∧ Ses CS 2 c (B + (n + 4))
  jc : L[n + 2]? = some (.map #[] 1)
  jc2 : L[n + 4]? = some (.map #[ent (.int .u64 conn) (.pointer none) 0] 1)
  dcli : ∃ CD ow m0, L[12]? = some (.cells CD 57 (0, 0)) ∧ Cli CD id ow m0 (B + 11)
  dses : ∃ v, L[11]? = some (.map #[ent (.agg (kc (sid 2))) v 0] 1)
  inner : ∃ b, L[n + 6]? = some (.map #[ent (.agg (kc (sid 2))) (.agg #[]) b] 2)
  sid2 : L[n + 1]? = some (.cells (kc (sid 2)) 63 (0, 0))
theorem destroy_way (w0 w : World) (B : Nat) (id : Int) (ow : ByteArray) (m0 : Bool) (jo c : Nat) (es es1 : Array MapEntry) (L : List Obj) (hM : Mem w0 w B L) {k : Int} {ot : Bool} {pc pu pc1 pu1 : Option Addr} {kept : Bool} (W : Way B k ot pc pu pc1 pu1 kept) (D : DPre L B id ow m0 jo c 0 es pc pu) (Post : World → Prop)
    (hes : es1 = bif kept then es else es.eraseIdxIfInBounds 0)
    (hrem : ∀ w1, Mem w0 w1 B ((L.set 13 (.cells #[.pointer pc1, .pointer pu1] 60 (0, 0))).set jo (.map es1 c)) → Calls Yba.prog 6 #[.pointer (some ⟨B + 8, 0, none⟩), .pointer (some ⟨B + 10, 0, none⟩)] w1 fun r w2 => r = .returned (.tuple #[]) ∧ Post w2) :
    Calls Yba.prog 5 #[.pointer (some ⟨B + 8, 0, none⟩), .pointer (some ⟨B + 10, 0, none⟩)] w fun r w2 => r = .returned (.tuple #[]) ∧ Post w2 := by
  have hdd : dd B ot = none ∨ dd B ot = some ⟨B + 12, 0, none⟩ := by cases ot <;> simp [dd]
  rcases W with ⟨-, rfl, rfl, rfl, rfl, rfl⟩ | ⟨-, rfl, rfl, rfl, rfl, rfl⟩ | ⟨-, rfl, rfl, rfl, rfl, rfl⟩ | ⟨-, rfl, rfl, rfl, rfl, rfl⟩
  · exact destroy_conf w0 w B id ow m0 jo c 0 es es1 _ L hM D Post (by rw [hes]; cases kept <;> rfl) hrem
  · exact destroy_unconf w0 w B id ow m0 jo c 0 es es1 _ L hM D hdd Post (by rw [hes]; cases kept <;> rfl) hrem
  · exact destroy_neither w0 w B id ow m0 jo c 0 es es1 _ L hM D hdd Post (by rw [hes]; cases kept <;> rfl) hrem
  · exact destroy_conf w0 w B id ow m0 jo c 0 es es1 _ L hM D Post (by rw [hes]; rfl) hrem
theorem cway_fin {B : Nat} {id r : Int} {CO CO1 : Obj} (h : CWay B id r CO CO1) : (r = 2 ∧ CO1 = .map #[ent (.int .u64 id) (pa B 12) 0] 1) ∨ (r ≠ 2 ∧ ∃ c, CO1 = .map #[] c) := by
  rcases h with ⟨h0, _, h2⟩ | ⟨h0, _, h2⟩ | ⟨h0, h1, h2⟩
  · exact .inr ⟨by omega, 0, h2⟩
  · exact .inr ⟨by omega, 1, h2⟩
  · exact .inl ⟨h0, h2.trans h1⟩
theorem mine_find (B : Nat) (ow ow2 : ByteArray) (st : Bool) (w : World) : (Instr.findKey 9 (.string ow) (mineE B ow ow2 st).toList).run Yba.prog w = .ok (some (0, .pointer (some ⟨B + 13, 0, none⟩))) w := by
  cases st <;> exact find_hit w Yba.underlying9 _ _ _ _ (same_str ow)
def jo3 (m0 : Bool) : Nat := bif m0 then 2 else 1
def jt3 (m0 : Bool) : Nat := bif m0 then 1 else 2
theorem clients_of {L : List Obj} {B : Nat} {id r : Int} {CO CO1 : Obj} (h : CWay B id r CO CO1) (hL : L[0]? = some CO1) : (r = 2 ∧ L[0]? = some (.map #[ent (.int .u64 id) (pa B 12) 0] 1)) ∨ (r ≠ 2 ∧ ∃ c, L[0]? = some (.map #[] c)) := by
  rcases cway_fin h with ⟨h1, h2⟩ | ⟨h1, c, h2⟩
  · exact .inl ⟨h1, by rw [hL, h2]⟩
  · exact .inr ⟨h1, c, by rw [hL, h2]⟩
section
variable {w0 w : World} {B : Nat} {id r : Int} {ow ow2 : ByteArray} {m0 st : Bool} {CT CC CD : Array Value} {CO CO1 : Obj} {k : Int} {ot : Bool} {pc pu pc1 pu1 : Option Addr} {kept : Bool}
theorem destroyed_no (T : Tab CT B) (C : Cli CC id ow m0 (B + 9)) (W : Way B k ot pc pu pc1 pu1 kept) (CW : CWay B id r CO CO1) (hst : st = true → ow2 ≠ ow)
    (M : Mem w0 w B (LB B CO (X1 B ow ow2 m0 st) (X2 B ow ow2 m0 st) em em em em CT CC CD pc pu (STl B st ++ [.cells (kc (sid 1)) 63 (0, 0), .cells (kc (sid 2)) 63 (0, 0)]))) :
    Calls Yba.prog 5 #[.pointer (some ⟨B + 8, 0, none⟩), .pointer (some ⟨B + 10, 0, none⟩)] w fun e w2 => e = .returned (.tuple #[]) ∧ ∃ L, FinE L B id ow ow2 st kept (jo3 m0) (jt3 m0) pc1 pu1 r ∧ FinN L ∧ Mem w0 w2 B L := by
  cases m0 <;> cases st <;>
  · refine destroy_way w0 w B id ow _ _ _ (mineE B ow ow2 _) (mineF B ow ow2 _ kept) _ M W ⟨⟨CT, rfl, T⟩, ⟨CC, rfl, C⟩, ⟨CD, rfl⟩, rfl, rfl, rfl, mine_find B ow ow2 _⟩ _ (mineF_eq B ow ow2 _ kept) fun w1 M1 => ?_
    refine (remove_no w0 w1 B id CO CO1 _ M1 ⟨⟨CT, rfl, T⟩, ⟨CC, _, _, rfl, C⟩, ⟨CD, rfl⟩, rfl⟩ rfl CW.clis).mono ?_
    rintro _ w2 ⟨rfl, M2⟩
    exact ⟨rfl, _, ⟨⟨CT, rfl, T⟩, ⟨CC, _, _, rfl, C⟩, clients_of CW rfl, ⟨_, _, rfl, mine_ok B ow ow2 _ kept hst⟩, rfl, rfl, rfl, (by first | exact fun _ => rfl | exact fun e => Bool.noConfusion e), ⟨0, rfl⟩, rfl, rfl, rfl⟩, ⟨rfl, rfl⟩, M2⟩
theorem inner_ok (sw : Bool) : (∀ w : World, (Instr.findKey 63 (.agg (kc (sid 1))) (innE sw).toList).run Yba.prog w = .ok (some (bif sw then 1 else 0, .agg #[])) w) ∧ struck (innE sw) (some (bif sw then 1 else 0, .agg #[])) = #[ent (.agg (kc (sid 2))) (.agg #[]) (bif sw then 0 else 1)] := by
  cases sw with
  | false => exact ⟨fun w => findS12 _ _ _ _ w, by simp [struck, innE, Array.eraseIdxIfInBounds]⟩
  | true => exact ⟨fun w => by kernel_rfl, by simp [struck, innE, Array.eraseIdxIfInBounds]⟩
set_option maxHeartbeats 1000000 in
theorem destroyed_se {conn : Int} {sw : Bool} {CS1 CS2 : Array Value} (T : Tab CT B) (C : Cli CC id ow m0 (B + 9)) (D : Cli CD id ow m0 (B + 11)) (W : Way B k ot pc pu pc1 pu1 kept) (CW : CWay B id r CO CO1) (hst : st = true → ow2 ≠ ow)
    (S1 : Ses CS1 1 ⟨B + 10, 0, none⟩ (B + (nn st + 2))) (S2 : Ses CS2 2 ⟨B + 12, 0, none⟩ (B + (nn st + 4)))
    (M : Mem w0 w B (LB B CO (X1 B ow ow2 m0 st) (X2 B ow ow2 m0 st) (.map #[ent (.agg (kc (sid 1))) (.pointer (some ⟨B + (nn st + 3), 0, none⟩)) 0, ent (.agg (kc (sid 2))) (.pointer (some ⟨B + (nn st + 5), 0, none⟩)) 1] 2) (.map #[ent (.int .u64 conn) (.map (some (B + (nn st + 6)))) 0] 1) (.map #[ent (.agg (kc (sid 1))) (.pointer (some ⟨B + (nn st + 3), 0, none⟩)) 0] 1) (.map #[ent (.agg (kc (sid 2))) (.pointer (some ⟨B + (nn st + 5), 0, none⟩)) 0] 1) CT CC CD pc pu (STl B st ++ [.cells (kc (sid 1)) 63 (0, 0), .cells (kc (sid 2)) 63 (0, 0), .map #[ent (.int .u64 conn) (.pointer none) 0] 1, .cells CS1 73 (0, 0), .map #[ent (.int .u64 conn) (.pointer none) 0] 1, .cells CS2 73 (0, 0), .map (innE sw) 2]))) :
    Calls Yba.prog 5 #[.pointer (some ⟨B + 8, 0, none⟩), .pointer (some ⟨B + 10, 0, none⟩)] w fun e w2 => e = .returned (.tuple #[]) ∧ ∃ L, FinE L B id ow ow2 st kept (jo3 m0) (jt3 m0) pc1 pu1 r ∧ FinS L B (nn st) id conn ∧ Mem w0 w2 B L := by
  obtain ⟨hf, he⟩ := inner_ok sw
  cases m0 with
  | false =>
    cases st with
    | false =>
      refine destroy_way w0 w B id ow false 1 1 (mineE B ow ow2 false) (mineF B ow ow2 false kept) _ M W ⟨⟨CT, rfl, T⟩, ⟨CC, rfl, C⟩, ⟨CD, rfl⟩, rfl, rfl, rfl, mine_find B ow ow2 false⟩ _ (mineF_eq B ow ow2 false kept) fun w1 M1 => ?_
      refine (remove_ws w0 w1 B 18 17 21 (bif sw then 0 else 1) conn ⟨B + 20, 0, none⟩ id CO CO1 _ M1 ⟨⟨CT, rfl, T⟩, ⟨CC, _, _, rfl, C⟩, ⟨CD, rfl⟩, rfl⟩
        ⟨⟨⟨CT, rfl, T⟩, ⟨CS1, rfl, S1⟩, rfl, rfl, ⟨innE sw, _, rfl, hf, he⟩, by decide, by decide, by decide, by decide⟩, rfl, rfl, ⟨CC, _, _, _, rfl, C⟩, by decide, by decide⟩ CW.clis).mono ?_
      rintro _ w2 ⟨rfl, M2⟩
      have M2 : Mem w0 w2 B (LB B CO1 (.map (mineF B ow ow2 false kept) 1) (theirM B ow) (.map #[ent (.agg (kc (sid 2))) (.pointer (some ⟨B + 20, 0, none⟩)) 1] 2) (.map #[ent (.int .u64 conn) (.map (some (B + 21))) 0] 1) (.map #[] 1) (.map #[ent (.agg (kc (sid 2))) (.pointer (some ⟨B + 20, 0, none⟩)) 0] 1) CT CC CD pc1 pu1 [.cells (kc (sid 1)) 63 (0, 0), .cells (kc (sid 2)) 63 (0, 0), .map #[] 1, .cells CS1 73 (0, 0), .map #[ent (.int .u64 conn) (.pointer none) 0] 1, .cells CS2 73 (0, 0), .map #[ent (.agg (kc (sid 2))) (.agg #[]) (bif sw then 0 else 1)] 2, .mapIter (some (B + 9)) 1 #[0] 1, .mapIter (some (B + 17)) 1 #[0] 1, nilIt, nilIt]) := M2
      refine ⟨rfl, _, ?_, ?_, M2⟩
      · exact ⟨⟨CT, rfl, T⟩, ⟨CC, _, _, rfl, C⟩, clients_of CW rfl, ⟨_, _, rfl, mine_ok B ow ow2 false kept hst⟩, rfl, rfl, rfl, fun e => Bool.noConfusion e, ⟨1, rfl⟩, rfl, rfl, rfl⟩
      · exact ⟨rfl, rfl, ⟨CS1, _, rfl, S1⟩, ⟨CS2, _, rfl, S2⟩, rfl, rfl, ⟨CD, _, _, rfl, D⟩, ⟨_, rfl⟩, ⟨_, rfl⟩, rfl⟩
    | true =>
      refine destroy_way w0 w B id ow false 1 2 (mineE B ow ow2 true) (mineF B ow ow2 true kept) _ M W ⟨⟨CT, rfl, T⟩, ⟨CC, rfl, C⟩, ⟨CD, rfl⟩, rfl, rfl, rfl, mine_find B ow ow2 true⟩ _ (mineF_eq B ow ow2 true kept) fun w1 M1 => ?_
      refine (remove_ws w0 w1 B 19 18 22 (bif sw then 0 else 1) conn ⟨B + 21, 0, none⟩ id CO CO1 _ M1 ⟨⟨CT, rfl, T⟩, ⟨CC, _, _, rfl, C⟩, ⟨CD, rfl⟩, rfl⟩
        ⟨⟨⟨CT, rfl, T⟩, ⟨CS1, rfl, S1⟩, rfl, rfl, ⟨innE sw, _, rfl, hf, he⟩, by decide, by decide, by decide, by decide⟩, rfl, rfl, ⟨CC, _, _, _, rfl, C⟩, by decide, by decide⟩ CW.clis).mono ?_
      rintro _ w2 ⟨rfl, M2⟩
      have M2 : Mem w0 w2 B (LB B CO1 (.map (mineF B ow ow2 true kept) 2) (theirM B ow) (.map #[ent (.agg (kc (sid 2))) (.pointer (some ⟨B + 21, 0, none⟩)) 1] 2) (.map #[ent (.int .u64 conn) (.map (some (B + 22))) 0] 1) (.map #[] 1) (.map #[ent (.agg (kc (sid 2))) (.pointer (some ⟨B + 21, 0, none⟩)) 0] 1) CT CC CD pc1 pu1 [.cells #[.pointer none, pa B 12] 60 (0, 0), .cells (kc (sid 1)) 63 (0, 0), .cells (kc (sid 2)) 63 (0, 0), .map #[] 1, .cells CS1 73 (0, 0), .map #[ent (.int .u64 conn) (.pointer none) 0] 1, .cells CS2 73 (0, 0), .map #[ent (.agg (kc (sid 2))) (.agg #[]) (bif sw then 0 else 1)] 2, .mapIter (some (B + 9)) 1 #[0] 1, .mapIter (some (B + 18)) 1 #[0] 1, nilIt, nilIt]) := M2
      refine ⟨rfl, _, ?_, ?_, M2⟩
      · exact ⟨⟨CT, rfl, T⟩, ⟨CC, _, _, rfl, C⟩, clients_of CW rfl, ⟨_, _, rfl, mine_ok B ow ow2 true kept hst⟩, rfl, rfl, rfl, fun _ => rfl, ⟨1, rfl⟩, rfl, rfl, rfl⟩
      · exact ⟨rfl, rfl, ⟨CS1, _, rfl, S1⟩, ⟨CS2, _, rfl, S2⟩, rfl, rfl, ⟨CD, _, _, rfl, D⟩, ⟨_, rfl⟩, ⟨_, rfl⟩, rfl⟩
  | true =>
    cases st with
    | false =>
      refine destroy_way w0 w B id ow true 2 1 (mineE B ow ow2 false) (mineF B ow ow2 false kept) _ M W ⟨⟨CT, rfl, T⟩, ⟨CC, rfl, C⟩, ⟨CD, rfl⟩, rfl, rfl, rfl, mine_find B ow ow2 false⟩ _ (mineF_eq B ow ow2 false kept) fun w1 M1 => ?_
      refine (remove_ws w0 w1 B 18 17 21 (bif sw then 0 else 1) conn ⟨B + 20, 0, none⟩ id CO CO1 _ M1 ⟨⟨CT, rfl, T⟩, ⟨CC, _, _, rfl, C⟩, ⟨CD, rfl⟩, rfl⟩
        ⟨⟨⟨CT, rfl, T⟩, ⟨CS1, rfl, S1⟩, rfl, rfl, ⟨innE sw, _, rfl, hf, he⟩, by decide, by decide, by decide, by decide⟩, rfl, rfl, ⟨CC, _, _, _, rfl, C⟩, by decide, by decide⟩ CW.clis).mono ?_
      rintro _ w2 ⟨rfl, M2⟩
      have M2 : Mem w0 w2 B (LB B CO1 (theirM B ow) (.map (mineF B ow ow2 false kept) 1) (.map #[ent (.agg (kc (sid 2))) (.pointer (some ⟨B + 20, 0, none⟩)) 1] 2) (.map #[ent (.int .u64 conn) (.map (some (B + 21))) 0] 1) (.map #[] 1) (.map #[ent (.agg (kc (sid 2))) (.pointer (some ⟨B + 20, 0, none⟩)) 0] 1) CT CC CD pc1 pu1 [.cells (kc (sid 1)) 63 (0, 0), .cells (kc (sid 2)) 63 (0, 0), .map #[] 1, .cells CS1 73 (0, 0), .map #[ent (.int .u64 conn) (.pointer none) 0] 1, .cells CS2 73 (0, 0), .map #[ent (.agg (kc (sid 2))) (.agg #[]) (bif sw then 0 else 1)] 2, .mapIter (some (B + 9)) 1 #[0] 1, .mapIter (some (B + 17)) 1 #[0] 1, nilIt, nilIt]) := M2
      refine ⟨rfl, _, ?_, ?_, M2⟩
      · exact ⟨⟨CT, rfl, T⟩, ⟨CC, _, _, rfl, C⟩, clients_of CW rfl, ⟨_, _, rfl, mine_ok B ow ow2 false kept hst⟩, rfl, rfl, rfl, fun e => Bool.noConfusion e, ⟨1, rfl⟩, rfl, rfl, rfl⟩
      · exact ⟨rfl, rfl, ⟨CS1, _, rfl, S1⟩, ⟨CS2, _, rfl, S2⟩, rfl, rfl, ⟨CD, _, _, rfl, D⟩, ⟨_, rfl⟩, ⟨_, rfl⟩, rfl⟩
    | true =>
      refine destroy_way w0 w B id ow true 2 2 (mineE B ow ow2 true) (mineF B ow ow2 true kept) _ M W ⟨⟨CT, rfl, T⟩, ⟨CC, rfl, C⟩, ⟨CD, rfl⟩, rfl, rfl, rfl, mine_find B ow ow2 true⟩ _ (mineF_eq B ow ow2 true kept) fun w1 M1 => ?_
      refine (remove_ws w0 w1 B 19 18 22 (bif sw then 0 else 1) conn ⟨B + 21, 0, none⟩ id CO CO1 _ M1 ⟨⟨CT, rfl, T⟩, ⟨CC, _, _, rfl, C⟩, ⟨CD, rfl⟩, rfl⟩
        ⟨⟨⟨CT, rfl, T⟩, ⟨CS1, rfl, S1⟩, rfl, rfl, ⟨innE sw, _, rfl, hf, he⟩, by decide, by decide, by decide, by decide⟩, rfl, rfl, ⟨CC, _, _, _, rfl, C⟩, by decide, by decide⟩ CW.clis).mono ?_
      rintro _ w2 ⟨rfl, M2⟩
      have M2 : Mem w0 w2 B (LB B CO1 (theirM B ow) (.map (mineF B ow ow2 true kept) 2) (.map #[ent (.agg (kc (sid 2))) (.pointer (some ⟨B + 21, 0, none⟩)) 1] 2) (.map #[ent (.int .u64 conn) (.map (some (B + 22))) 0] 1) (.map #[] 1) (.map #[ent (.agg (kc (sid 2))) (.pointer (some ⟨B + 21, 0, none⟩)) 0] 1) CT CC CD pc1 pu1 [.cells #[.pointer none, pa B 12] 60 (0, 0), .cells (kc (sid 1)) 63 (0, 0), .cells (kc (sid 2)) 63 (0, 0), .map #[] 1, .cells CS1 73 (0, 0), .map #[ent (.int .u64 conn) (.pointer none) 0] 1, .cells CS2 73 (0, 0), .map #[ent (.agg (kc (sid 2))) (.agg #[]) (bif sw then 0 else 1)] 2, .mapIter (some (B + 9)) 1 #[0] 1, .mapIter (some (B + 18)) 1 #[0] 1, nilIt, nilIt]) := M2
      refine ⟨rfl, _, ?_, ?_, M2⟩
      · exact ⟨⟨CT, rfl, T⟩, ⟨CC, _, _, rfl, C⟩, clients_of CW rfl, ⟨_, _, rfl, mine_ok B ow ow2 true kept hst⟩, rfl, rfl, rfl, fun _ => rfl, ⟨1, rfl⟩, rfl, rfl, rfl⟩
      · exact ⟨rfl, rfl, ⟨CS1, _, rfl, S1⟩, ⟨CS2, _, rfl, S2⟩, rfl, rfl, ⟨CD, _, _, rfl, D⟩, ⟨_, rfl⟩, ⟨_, rfl⟩, rfl⟩
end
end Go.Proofs.Ybulkdufc
