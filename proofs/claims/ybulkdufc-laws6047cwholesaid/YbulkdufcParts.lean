/-
  The structs' cells; keys of the maps: found or not.
-/
import Derived.Test.YbulkdufcMem
import Derived.Stop.BytesEq
namespace Go.Proofs.Ybulkdufc
open Go.RowKit Go.Split
open Extern.Stop (cell)

/-- The cells of a Table that matter. -/
structure Tab (C : Array Value) (B : Nat) : Prop where
  size : C.size = 21
  clients : C[12]? = some (.map (some (B + 0)))
  owners : C[13]? = some (.map (some (B + 1)))
  owners40 : C[14]? = some (.map (some (B + 2)))
  sessions : C[15]? = some (.map (some (B + 3)))
  conns : C[16]? = some (.map (some (B + 4)))
  opens : C[17]? = some (.map (some (B + 5)))
  delegations : C[18]? = some (.map (some (B + 6)))
  files : C[19]? = some (.map (some (B + 7)))
theorem built44 (B : Nat) : ∃ C, Yba.prog.built 44 [(7, .map (some (B + 0))), (8, .map (some (B + 1))), (9, .map (some (B + 2))), (10, .map (some (B + 3))), (11, .map (some (B + 4))), (12, .map (some (B + 5))), (13, .map (some (B + 6))), (14, .map (some (B + 7)))] = some C ∧ Tab C B :=
  ⟨(Yba.prog.built 44 [(7, .map (some (B + 0))), (8, .map (some (B + 1))), (9, .map (some (B + 2))), (10, .map (some (B + 3))), (11, .map (some (B + 4))), (12, .map (some (B + 5))), (13, .map (some (B + 6))), (14, .map (some (B + 7)))]).getD #[],
    by kernel_rfl, by kernel_rfl, by kernel_rfl, by kernel_rfl, by kernel_rfl, by kernel_rfl, by kernel_rfl, by kernel_rfl, by kernel_rfl, by kernel_rfl⟩
/-- The cells of a client that matter. -/
structure Cli (C : Array Value) (id : Int) (ow : ByteArray) (m0 : Bool) (ss : Nat) : Prop where
  size : C.size = 34
  id : C[0]? = some (.int .u64 id)
  owner : C[1]? = some (.string ow)
  minor0 : C[11]? = some (.bool m0)
  sessions : C[18]? = some (.map (some ss))
  openOwners : C[31]? = some (.map none)
  delegations : C[32]? = some (.map none)
theorem built57 (id : Int) (ow : ByteArray) (m0 : Bool) (ss : Nat) : ∃ C, Yba.prog.built 57 [(0, .int .u64 id), (1, .string ow), (4, .bool m0), (9, .map (some ss))] = some C ∧ Cli C id ow m0 ss :=
  ⟨(Yba.prog.built 57 [(0, .int .u64 id), (1, .string ow), (4, .bool m0), (9, .map (some ss))]).getD #[],
    by kernel_rfl, by kernel_rfl, by kernel_rfl, by kernel_rfl, by kernel_rfl, by kernel_rfl, by kernel_rfl, by kernel_rfl⟩
theorem built60_0 : Yba.prog.built 60 [] = some #[.pointer none, .pointer none] := by kernel_rfl
theorem built60_1 (p : Option Addr) : Yba.prog.built 60 [(0, .pointer p)] = some #[.pointer p, .pointer none] := by kernel_rfl
theorem built60_2 (p : Option Addr) : Yba.prog.built 60 [(1, .pointer p)] = some #[.pointer none, .pointer p] := by kernel_rfl
/-- The cells of a SessionID whose first byte is x, the rest nought. -/
def sid (x : UInt8) : List UInt8 := x :: List.replicate 15 0
def kc (xs : List UInt8) : Array Value := (xs.map cell).toArray
/-- The cells of a session that matter. -/
structure Ses (C : Array Value) (x : UInt8) (c : Addr) (cs : Nat) : Prop where
  size : C.size = 37
  id : C.extract 0 (0 + 16) = kc (sid x)
  client : C[16]? = some (.pointer (some c))
  conns : C[23]? = some (.map (some cs))
theorem built73 (x : UInt8) (c : Addr) (cs : Nat) : ∃ C, Yba.prog.built 73 [(0, .agg (kc (sid x))), (1, .pointer (some c)), (4, .map (some cs))] = some C ∧ Ses C x c cs :=
  ⟨(Yba.prog.built 73 [(0, .agg (kc (sid x))), (1, .pointer (some c)), (4, .map (some cs))]).getD #[],
    by kernel_rfl, by kernel_rfl, by kernel_rfl, by kernel_rfl, by kernel_rfl⟩

/-! ### keys -/
theorem ck9 (s : ByteArray) (b : Bool) (w : World) : (Instr.checkKey b 10000 9 (.string s)).run Yba.prog w = .ok () w := by kernel_rfl
theorem ck46 (n : Int) (b : Bool) (w : World) : (Instr.checkKey b 10000 46 (.int .u64 n)).run Yba.prog w = .ok () w := by kernel_rfl
theorem ck64 (n : Int) (b : Bool) (w : World) : (Instr.checkKey b 10000 64 (.int .u64 n)).run Yba.prog w = .ok () w := by kernel_rfl
theorem ck63 (x : UInt8) (b : Bool) (w : World) : (Instr.checkKey b 10000 63 (.agg (kc (sid x)))).run Yba.prog w = .ok () w := by kernel_rfl

section
variable {kt : TypeId} {d : TypeDesc} (w : World)
theorem find_nil (hu : Yba.prog.underlying kt = some d) (k : Value) : (Instr.findKey kt k []).run Yba.prog w = .ok none w := by
  simp [Instr.findKey, run_underlying hu, Instr.findNow]
theorem find_hit (hu : Yba.prog.underlying kt = some d) (k v : Value) (b : Nat) (es : List MapEntry) (hs : Instr.sameNow d k k = some true) : (Instr.findKey kt k ({ key := k, val := v, born := b } :: es)).run Yba.prog w = .ok (some (0, v)) w := by
  simp [Instr.findKey, run_underlying hu, Instr.findNow, hs]
theorem find_miss (hu : Yba.prog.underlying kt = some d) (k k1 v : Value) (b : Nat) (hs : Instr.sameNow d k k1 = some false) : (Instr.findKey kt k [{ key := k1, val := v, born := b }]).run Yba.prog w = .ok none w := by
  simp [Instr.findKey, run_underlying hu, Instr.findNow, hs]
theorem find_hit2 (hu : Yba.prog.underlying kt = some d) (k k1 v v1 : Value) (b b1 : Nat) (hs : Instr.sameNow d k k1 = some false) (hs2 : Instr.sameNow d k k = some true) : (Instr.findKey kt k [{ key := k1, val := v1, born := b1 }, { key := k, val := v, born := b }]).run Yba.prog w = .ok (some (1, v)) w := by
  simp [Instr.findKey, run_underlying hu, Instr.findNow, hs, hs2]
end
theorem same_str (s : ByteArray) : Instr.sameNow .string (.string s) (.string s) = some true := by simp [Instr.sameNow, beq_toListBytes]
theorem same_int (n : Int) : Instr.sameNow (.int .u64) (.int .u64 n) (.int .u64 n) = some true := by simp [Instr.sameNow]
theorem diff_str {s t : ByteArray} (h : s ≠ t) : Instr.sameNow .string (.string s) (.string t) = some false := by
  have : (s == t) = false := by
    rw [beq_toListBytes]
    simp only [beq_eq_false_iff_ne, ne_eq]
    intro he
    apply h
    rw [ByteArray.toList_eq, ByteArray.toList_eq] at he
    cases s; cases t
    simp_all
  simp [Instr.sameNow, this]
theorem findS1 (x : UInt8) (v : Value) (b : Nat) (hx : x = 1 ∨ x = 2) (w : World) : (Instr.findKey 63 (.agg (kc (sid x))) [{ key := .agg (kc (sid x)), val := v, born := b }]).run Yba.prog w = .ok (some (0, v)) w := by
  rcases hx with rfl | rfl <;> kernel_rfl
theorem findS12 (v v2 : Value) (b b2 : Nat) (w : World) : (Instr.findKey 63 (.agg (kc (sid 1))) [{ key := .agg (kc (sid 1)), val := v, born := b }, { key := .agg (kc (sid 2)), val := v2, born := b2 }]).run Yba.prog w = .ok (some (0, v)) w := by kernel_rfl
theorem findS21 (v : Value) (b : Nat) (w : World) : (Instr.findKey 63 (.agg (kc (sid 2))) [{ key := .agg (kc (sid 1)), val := v, born := b }]).run Yba.prog w = .ok none w := by kernel_rfl
end Go.Proofs.Ybulkdufc
