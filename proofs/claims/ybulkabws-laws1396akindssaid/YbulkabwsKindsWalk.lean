import Derived.Test.YbulkabwsRows
import Derived.WalkKit
import Derived.WalkSpells
import Derived.WalkLawsBesides
import Derived.Handy
namespace Go.Proofs.Ybulkabws
open Go.RowKit
set_option linter.unusedVariables false

theorem frombits (n : Int) (w : World) : (callFunc 10 #[.int .u64 n]).run Yba.prog w = .ok (.value (.float .f64 n.toNat)) w := by kernel_rfl

/-! What each test of the type switch says, dynamic type by dynamic type. -/
theorem hit_22 (v : Value) (w : World) : (Instr.typeAssert (.iface 22 v) 20 22 true).run Yba.prog w = .ok (.tuple #[v, .bool true]) w := by kernel_rfl
theorem miss_32_22 (v : Value) (w : World) : (Instr.typeAssert (.iface 32 v) 20 22 true).run Yba.prog w = .ok (.tuple #[.int .u64 0, .bool false]) w := by kernel_rfl
theorem hit_32 (v : Value) (w : World) : (Instr.typeAssert (.iface 32 v) 20 32 true).run Yba.prog w = .ok (.tuple #[v, .bool true]) w := by kernel_rfl
theorem miss_23_22 (v : Value) (w : World) : (Instr.typeAssert (.iface 23 v) 20 22 true).run Yba.prog w = .ok (.tuple #[.int .u64 0, .bool false]) w := by kernel_rfl
theorem miss_23_32 (v : Value) (w : World) : (Instr.typeAssert (.iface 23 v) 20 32 true).run Yba.prog w = .ok (.tuple #[.int .u64 0, .bool false]) w := by kernel_rfl
theorem hit_23 (v : Value) (w : World) : (Instr.typeAssert (.iface 23 v) 20 23 true).run Yba.prog w = .ok (.tuple #[v, .bool true]) w := by kernel_rfl
theorem miss_9_22 (v : Value) (w : World) : (Instr.typeAssert (.iface 9 v) 20 22 true).run Yba.prog w = .ok (.tuple #[.int .u64 0, .bool false]) w := by kernel_rfl
theorem miss_9_32 (v : Value) (w : World) : (Instr.typeAssert (.iface 9 v) 20 32 true).run Yba.prog w = .ok (.tuple #[.int .u64 0, .bool false]) w := by kernel_rfl
theorem miss_9_23 (v : Value) (w : World) : (Instr.typeAssert (.iface 9 v) 20 23 true).run Yba.prog w = .ok (.tuple #[.slice none 0 0, .bool false]) w := by kernel_rfl
theorem hit_9 (v : Value) (w : World) : (Instr.typeAssert (.iface 9 v) 20 9 true).run Yba.prog w = .ok (.tuple #[v, .bool true]) w := by kernel_rfl
theorem miss_33_22 (v : Value) (w : World) : (Instr.typeAssert (.iface 33 v) 20 22 true).run Yba.prog w = .ok (.tuple #[.int .u64 0, .bool false]) w := by kernel_rfl
theorem miss_33_32 (v : Value) (w : World) : (Instr.typeAssert (.iface 33 v) 20 32 true).run Yba.prog w = .ok (.tuple #[.int .u64 0, .bool false]) w := by kernel_rfl
theorem miss_33_23 (v : Value) (w : World) : (Instr.typeAssert (.iface 33 v) 20 23 true).run Yba.prog w = .ok (.tuple #[.slice none 0 0, .bool false]) w := by kernel_rfl
theorem miss_33_9 (v : Value) (w : World) : (Instr.typeAssert (.iface 33 v) 20 9 true).run Yba.prog w = .ok (.tuple #[.string ByteArray.empty, .bool false]) w := by kernel_rfl
theorem hit_33 (v : Value) (w : World) : (Instr.typeAssert (.iface 33 v) 20 33 true).run Yba.prog w = .ok (.tuple #[v, .bool true]) w := by kernel_rfl
theorem miss_37_22 (v : Value) (w : World) : (Instr.typeAssert (.iface 37 v) 20 22 true).run Yba.prog w = .ok (.tuple #[.int .u64 0, .bool false]) w := by kernel_rfl
theorem miss_37_32 (v : Value) (w : World) : (Instr.typeAssert (.iface 37 v) 20 32 true).run Yba.prog w = .ok (.tuple #[.int .u64 0, .bool false]) w := by kernel_rfl
theorem miss_37_23 (v : Value) (w : World) : (Instr.typeAssert (.iface 37 v) 20 23 true).run Yba.prog w = .ok (.tuple #[.slice none 0 0, .bool false]) w := by kernel_rfl
theorem miss_37_9 (v : Value) (w : World) : (Instr.typeAssert (.iface 37 v) 20 9 true).run Yba.prog w = .ok (.tuple #[.string ByteArray.empty, .bool false]) w := by kernel_rfl
theorem miss_37_33 (v : Value) (w : World) : (Instr.typeAssert (.iface 37 v) 20 33 true).run Yba.prog w = .ok (.tuple #[.slice none 0 0, .bool false]) w := by kernel_rfl
theorem hit_37 (v : Value) (w : World) : (Instr.typeAssert (.iface 37 v) 20 37 true).run Yba.prog w = .ok (.tuple #[v, .bool true]) w := by kernel_rfl
theorem miss_39_22 (v : Value) (w : World) : (Instr.typeAssert (.iface 39 v) 20 22 true).run Yba.prog w = .ok (.tuple #[.int .u64 0, .bool false]) w := by kernel_rfl
theorem miss_39_32 (v : Value) (w : World) : (Instr.typeAssert (.iface 39 v) 20 32 true).run Yba.prog w = .ok (.tuple #[.int .u64 0, .bool false]) w := by kernel_rfl
theorem miss_39_23 (v : Value) (w : World) : (Instr.typeAssert (.iface 39 v) 20 23 true).run Yba.prog w = .ok (.tuple #[.slice none 0 0, .bool false]) w := by kernel_rfl
theorem miss_39_9 (v : Value) (w : World) : (Instr.typeAssert (.iface 39 v) 20 9 true).run Yba.prog w = .ok (.tuple #[.string ByteArray.empty, .bool false]) w := by kernel_rfl
theorem miss_39_33 (v : Value) (w : World) : (Instr.typeAssert (.iface 39 v) 20 33 true).run Yba.prog w = .ok (.tuple #[.slice none 0 0, .bool false]) w := by kernel_rfl
theorem miss_39_37 (v : Value) (w : World) : (Instr.typeAssert (.iface 39 v) 20 37 true).run Yba.prog w = .ok (.tuple #[.slice none 0 0, .bool false]) w := by kernel_rfl
theorem hit_39 (v : Value) (w : World) : (Instr.typeAssert (.iface 39 v) 20 39 true).run Yba.prog w = .ok (.tuple #[v, .bool true]) w := by kernel_rfl
theorem miss_4_22 (v : Value) (w : World) : (Instr.typeAssert (.iface 4 v) 20 22 true).run Yba.prog w = .ok (.tuple #[.int .u64 0, .bool false]) w := by kernel_rfl
theorem miss_4_32 (v : Value) (w : World) : (Instr.typeAssert (.iface 4 v) 20 32 true).run Yba.prog w = .ok (.tuple #[.int .u64 0, .bool false]) w := by kernel_rfl
theorem miss_4_23 (v : Value) (w : World) : (Instr.typeAssert (.iface 4 v) 20 23 true).run Yba.prog w = .ok (.tuple #[.slice none 0 0, .bool false]) w := by kernel_rfl
theorem miss_4_9 (v : Value) (w : World) : (Instr.typeAssert (.iface 4 v) 20 9 true).run Yba.prog w = .ok (.tuple #[.string ByteArray.empty, .bool false]) w := by kernel_rfl
theorem miss_4_33 (v : Value) (w : World) : (Instr.typeAssert (.iface 4 v) 20 33 true).run Yba.prog w = .ok (.tuple #[.slice none 0 0, .bool false]) w := by kernel_rfl
theorem miss_4_37 (v : Value) (w : World) : (Instr.typeAssert (.iface 4 v) 20 37 true).run Yba.prog w = .ok (.tuple #[.slice none 0 0, .bool false]) w := by kernel_rfl
theorem miss_4_39 (v : Value) (w : World) : (Instr.typeAssert (.iface 4 v) 20 39 true).run Yba.prog w = .ok (.tuple #[.agg #[.int .u64 0, .nilIface], .bool false]) w := by kernel_rfl
theorem hit_4 (v : Value) (w : World) : (Instr.typeAssert (.iface 4 v) 20 4 true).run Yba.prog w = .ok (.tuple #[v, .bool true]) w := by kernel_rfl
theorem miss_40_22 (v : Value) (w : World) : (Instr.typeAssert (.iface 40 v) 20 22 true).run Yba.prog w = .ok (.tuple #[.int .u64 0, .bool false]) w := by kernel_rfl
theorem miss_40_32 (v : Value) (w : World) : (Instr.typeAssert (.iface 40 v) 20 32 true).run Yba.prog w = .ok (.tuple #[.int .u64 0, .bool false]) w := by kernel_rfl
theorem miss_40_23 (v : Value) (w : World) : (Instr.typeAssert (.iface 40 v) 20 23 true).run Yba.prog w = .ok (.tuple #[.slice none 0 0, .bool false]) w := by kernel_rfl
theorem miss_40_9 (v : Value) (w : World) : (Instr.typeAssert (.iface 40 v) 20 9 true).run Yba.prog w = .ok (.tuple #[.string ByteArray.empty, .bool false]) w := by kernel_rfl
theorem miss_40_33 (v : Value) (w : World) : (Instr.typeAssert (.iface 40 v) 20 33 true).run Yba.prog w = .ok (.tuple #[.slice none 0 0, .bool false]) w := by kernel_rfl
theorem miss_40_37 (v : Value) (w : World) : (Instr.typeAssert (.iface 40 v) 20 37 true).run Yba.prog w = .ok (.tuple #[.slice none 0 0, .bool false]) w := by kernel_rfl
theorem miss_40_39 (v : Value) (w : World) : (Instr.typeAssert (.iface 40 v) 20 39 true).run Yba.prog w = .ok (.tuple #[.agg #[.int .u64 0, .nilIface], .bool false]) w := by kernel_rfl
theorem miss_40_4 (v : Value) (w : World) : (Instr.typeAssert (.iface 40 v) 20 4 true).run Yba.prog w = .ok (.tuple #[.bool false, .bool false]) w := by kernel_rfl
theorem hit_40 (v : Value) (w : World) : (Instr.typeAssert (.iface 40 v) 20 40 true).run Yba.prog w = .ok (.tuple #[v, .bool true]) w := by kernel_rfl
theorem miss_42_22 (v : Value) (w : World) : (Instr.typeAssert (.iface 42 v) 20 22 true).run Yba.prog w = .ok (.tuple #[.int .u64 0, .bool false]) w := by kernel_rfl
theorem miss_42_32 (v : Value) (w : World) : (Instr.typeAssert (.iface 42 v) 20 32 true).run Yba.prog w = .ok (.tuple #[.int .u64 0, .bool false]) w := by kernel_rfl
theorem miss_42_23 (v : Value) (w : World) : (Instr.typeAssert (.iface 42 v) 20 23 true).run Yba.prog w = .ok (.tuple #[.slice none 0 0, .bool false]) w := by kernel_rfl
theorem miss_42_9 (v : Value) (w : World) : (Instr.typeAssert (.iface 42 v) 20 9 true).run Yba.prog w = .ok (.tuple #[.string ByteArray.empty, .bool false]) w := by kernel_rfl
theorem miss_42_33 (v : Value) (w : World) : (Instr.typeAssert (.iface 42 v) 20 33 true).run Yba.prog w = .ok (.tuple #[.slice none 0 0, .bool false]) w := by kernel_rfl
theorem miss_42_37 (v : Value) (w : World) : (Instr.typeAssert (.iface 42 v) 20 37 true).run Yba.prog w = .ok (.tuple #[.slice none 0 0, .bool false]) w := by kernel_rfl
theorem miss_42_39 (v : Value) (w : World) : (Instr.typeAssert (.iface 42 v) 20 39 true).run Yba.prog w = .ok (.tuple #[.agg #[.int .u64 0, .nilIface], .bool false]) w := by kernel_rfl
theorem miss_42_4 (v : Value) (w : World) : (Instr.typeAssert (.iface 42 v) 20 4 true).run Yba.prog w = .ok (.tuple #[.bool false, .bool false]) w := by kernel_rfl
theorem miss_42_40 (v : Value) (w : World) : (Instr.typeAssert (.iface 42 v) 20 40 true).run Yba.prog w = .ok (.tuple #[.float .f64 0, .bool false]) w := by kernel_rfl
theorem hit_42 (v : Value) (w : World) : (Instr.typeAssert (.iface 42 v) 20 42 true).run Yba.prog w = .ok (.tuple #[v, .bool true]) w := by kernel_rfl
theorem miss_nil_22 (w : World) : (Instr.typeAssert .nilIface 20 22 true).run Yba.prog w = .ok (.tuple #[.int .u64 0, .bool false]) w := by kernel_rfl
theorem miss_nil_32 (w : World) : (Instr.typeAssert .nilIface 20 32 true).run Yba.prog w = .ok (.tuple #[.int .u64 0, .bool false]) w := by kernel_rfl
theorem miss_nil_23 (w : World) : (Instr.typeAssert .nilIface 20 23 true).run Yba.prog w = .ok (.tuple #[.slice none 0 0, .bool false]) w := by kernel_rfl
theorem miss_nil_9 (w : World) : (Instr.typeAssert .nilIface 20 9 true).run Yba.prog w = .ok (.tuple #[.string ByteArray.empty, .bool false]) w := by kernel_rfl
theorem miss_nil_33 (w : World) : (Instr.typeAssert .nilIface 20 33 true).run Yba.prog w = .ok (.tuple #[.slice none 0 0, .bool false]) w := by kernel_rfl
theorem miss_nil_37 (w : World) : (Instr.typeAssert .nilIface 20 37 true).run Yba.prog w = .ok (.tuple #[.slice none 0 0, .bool false]) w := by kernel_rfl
theorem miss_nil_39 (w : World) : (Instr.typeAssert .nilIface 20 39 true).run Yba.prog w = .ok (.tuple #[.agg #[.int .u64 0, .nilIface], .bool false]) w := by kernel_rfl
theorem miss_nil_4 (w : World) : (Instr.typeAssert .nilIface 20 4 true).run Yba.prog w = .ok (.tuple #[.bool false, .bool false]) w := by kernel_rfl
theorem miss_nil_40 (w : World) : (Instr.typeAssert .nilIface 20 40 true).run Yba.prog w = .ok (.tuple #[.float .f64 0, .bool false]) w := by kernel_rfl
theorem miss_nil_42 (w : World) : (Instr.typeAssert .nilIface 20 42 true).run Yba.prog w = .ok (.tuple #[.int .u8 0, .bool false]) w := by kernel_rfl
theorem miss_2_22 (v : Value) (w : World) : (Instr.typeAssert (.iface 2 v) 20 22 true).run Yba.prog w = .ok (.tuple #[.int .u64 0, .bool false]) w := by kernel_rfl
theorem miss_2_32 (v : Value) (w : World) : (Instr.typeAssert (.iface 2 v) 20 32 true).run Yba.prog w = .ok (.tuple #[.int .u64 0, .bool false]) w := by kernel_rfl
theorem miss_2_23 (v : Value) (w : World) : (Instr.typeAssert (.iface 2 v) 20 23 true).run Yba.prog w = .ok (.tuple #[.slice none 0 0, .bool false]) w := by kernel_rfl
theorem miss_2_9 (v : Value) (w : World) : (Instr.typeAssert (.iface 2 v) 20 9 true).run Yba.prog w = .ok (.tuple #[.string ByteArray.empty, .bool false]) w := by kernel_rfl
theorem miss_2_33 (v : Value) (w : World) : (Instr.typeAssert (.iface 2 v) 20 33 true).run Yba.prog w = .ok (.tuple #[.slice none 0 0, .bool false]) w := by kernel_rfl
theorem miss_2_37 (v : Value) (w : World) : (Instr.typeAssert (.iface 2 v) 20 37 true).run Yba.prog w = .ok (.tuple #[.slice none 0 0, .bool false]) w := by kernel_rfl
theorem miss_2_39 (v : Value) (w : World) : (Instr.typeAssert (.iface 2 v) 20 39 true).run Yba.prog w = .ok (.tuple #[.agg #[.int .u64 0, .nilIface], .bool false]) w := by kernel_rfl
theorem miss_2_4 (v : Value) (w : World) : (Instr.typeAssert (.iface 2 v) 20 4 true).run Yba.prog w = .ok (.tuple #[.bool false, .bool false]) w := by kernel_rfl
theorem miss_2_40 (v : Value) (w : World) : (Instr.typeAssert (.iface 2 v) 20 40 true).run Yba.prog w = .ok (.tuple #[.float .f64 0, .bool false]) w := by kernel_rfl
theorem miss_2_42 (v : Value) (w : World) : (Instr.typeAssert (.iface 2 v) 20 42 true).run Yba.prog w = .ok (.tuple #[.int .u8 0, .bool false]) w := by kernel_rfl
theorem miss_5_22 (v : Value) (w : World) : (Instr.typeAssert (.iface 5 v) 20 22 true).run Yba.prog w = .ok (.tuple #[.int .u64 0, .bool false]) w := by kernel_rfl
theorem miss_5_32 (v : Value) (w : World) : (Instr.typeAssert (.iface 5 v) 20 32 true).run Yba.prog w = .ok (.tuple #[.int .u64 0, .bool false]) w := by kernel_rfl
theorem miss_5_23 (v : Value) (w : World) : (Instr.typeAssert (.iface 5 v) 20 23 true).run Yba.prog w = .ok (.tuple #[.slice none 0 0, .bool false]) w := by kernel_rfl
theorem miss_5_9 (v : Value) (w : World) : (Instr.typeAssert (.iface 5 v) 20 9 true).run Yba.prog w = .ok (.tuple #[.string ByteArray.empty, .bool false]) w := by kernel_rfl
theorem miss_5_33 (v : Value) (w : World) : (Instr.typeAssert (.iface 5 v) 20 33 true).run Yba.prog w = .ok (.tuple #[.slice none 0 0, .bool false]) w := by kernel_rfl
theorem miss_5_37 (v : Value) (w : World) : (Instr.typeAssert (.iface 5 v) 20 37 true).run Yba.prog w = .ok (.tuple #[.slice none 0 0, .bool false]) w := by kernel_rfl
theorem miss_5_39 (v : Value) (w : World) : (Instr.typeAssert (.iface 5 v) 20 39 true).run Yba.prog w = .ok (.tuple #[.agg #[.int .u64 0, .nilIface], .bool false]) w := by kernel_rfl
theorem miss_5_4 (v : Value) (w : World) : (Instr.typeAssert (.iface 5 v) 20 4 true).run Yba.prog w = .ok (.tuple #[.bool false, .bool false]) w := by kernel_rfl
theorem miss_5_40 (v : Value) (w : World) : (Instr.typeAssert (.iface 5 v) 20 40 true).run Yba.prog w = .ok (.tuple #[.float .f64 0, .bool false]) w := by kernel_rfl
theorem miss_5_42 (v : Value) (w : World) : (Instr.typeAssert (.iface 5 v) 20 42 true).run Yba.prog w = .ok (.tuple #[.int .u8 0, .bool false]) w := by kernel_rfl

set_option maxRecDepth 100000 in
set_option maxHeartbeats 400000 in
theorem kinds_0 (a0 a1 : Int) (a2 : ByteArray) (a3 : Option Addr) (len3 cap3 : Nat) (w : World) (h0 : 0 ≤ a0) (h1 : a0 ≤ 255) (h2 : 0 ≤ a1) (h3 : a1 ≤ 18446744073709551615) (hr : a0 % 13 = 0) :
    Calls Yba.prog 3 #[.int .u8 a0, .int .u64 a1, .string a2, .slice a3 len3 cap3] w fun e w' => e = .returned (.bool true) ∧ Below w.heap.size w w' := by
  have q0 := hit_22
  go_enter Yba.func3, Yba.ntmps3
  go_wp2
  go_ret
  refine ⟨rfl, ?_⟩
  go_grown

set_option maxRecDepth 100000 in
set_option maxHeartbeats 400000 in
theorem kinds_1 (a0 a1 : Int) (a2 : ByteArray) (a3 : Option Addr) (len3 cap3 : Nat) (w : World) (h0 : 0 ≤ a0) (h1 : a0 ≤ 255) (h2 : 0 ≤ a1) (h3 : a1 ≤ 18446744073709551615) (hr : a0 % 13 = 1) :
    Calls Yba.prog 3 #[.int .u8 a0, .int .u64 a1, .string a2, .slice a3 len3 cap3] w fun e w' => e = .returned (.bool true) ∧ Below w.heap.size w w' := by
  have q0 := miss_32_22
  have q1 := hit_32
  go_enter Yba.func3, Yba.ntmps3
  go_wp2
  go_ret
  refine ⟨rfl, ?_⟩
  go_grown

set_option maxRecDepth 100000 in
set_option maxHeartbeats 400000 in
theorem kinds_2 (a0 a1 : Int) (a2 : ByteArray) (a3 : Option Addr) (len3 cap3 : Nat) (w : World) (h0 : 0 ≤ a0) (h1 : a0 ≤ 255) (h2 : 0 ≤ a1) (h3 : a1 ≤ 18446744073709551615) (hr : a0 % 13 = 2) :
    Calls Yba.prog 3 #[.int .u8 a0, .int .u64 a1, .string a2, .slice a3 len3 cap3] w fun e w' => e = .returned (.bool true) ∧ Below w.heap.size w w' := by
  have q0 := miss_23_22
  have q1 := miss_23_32
  have q2 := hit_23
  go_enter Yba.func3, Yba.ntmps3
  go_wp2
  go_ret
  refine ⟨rfl, ?_⟩
  go_grown

set_option maxRecDepth 100000 in
set_option maxHeartbeats 400000 in
theorem kinds_3 (a0 a1 : Int) (a2 : ByteArray) (a3 : Option Addr) (len3 cap3 : Nat) (w : World) (h0 : 0 ≤ a0) (h1 : a0 ≤ 255) (h2 : 0 ≤ a1) (h3 : a1 ≤ 18446744073709551615) (hr : a0 % 13 = 3) :
    Calls Yba.prog 3 #[.int .u8 a0, .int .u64 a1, .string a2, .slice a3 len3 cap3] w fun e w' => e = .returned (.bool true) ∧ Below w.heap.size w w' := by
  have q0 := miss_9_22
  have q1 := miss_9_32
  have q2 := miss_9_23
  have q3 := hit_9
  go_enter Yba.func3, Yba.ntmps3
  go_wp2
  go_ret
  refine ⟨rfl, ?_⟩
  go_grown

set_option maxRecDepth 100000 in
set_option maxHeartbeats 400000 in
theorem kinds_4 (a0 a1 : Int) (a2 : ByteArray) (a3 : Option Addr) (len3 cap3 : Nat) (w : World) (h0 : 0 ≤ a0) (h1 : a0 ≤ 255) (h2 : 0 ≤ a1) (h3 : a1 ≤ 18446744073709551615) (hr : a0 % 13 = 4) :
    Calls Yba.prog 3 #[.int .u8 a0, .int .u64 a1, .string a2, .slice a3 len3 cap3] w fun e w' => e = .returned (.bool true) ∧ Below w.heap.size w w' := by
  have q0 := miss_33_22
  have q1 := miss_33_32
  have q2 := miss_33_23
  have q3 := miss_33_9
  have q4 := hit_33
  go_enter Yba.func3, Yba.ntmps3
  go_wp2
  go_ret
  refine ⟨rfl, ?_⟩
  go_grown

set_option maxRecDepth 100000 in
set_option maxHeartbeats 400000 in
theorem kinds_5 (a0 a1 : Int) (a2 : ByteArray) (a3 : Option Addr) (len3 cap3 : Nat) (w : World) (h0 : 0 ≤ a0) (h1 : a0 ≤ 255) (h2 : 0 ≤ a1) (h3 : a1 ≤ 18446744073709551615) (hr : a0 % 13 = 5) :
    Calls Yba.prog 3 #[.int .u8 a0, .int .u64 a1, .string a2, .slice a3 len3 cap3] w fun e w' => e = .returned (.bool true) ∧ Below w.heap.size w w' := by
  have q0 := miss_37_22
  have q1 := miss_37_32
  have q2 := miss_37_23
  have q3 := miss_37_9
  have q4 := miss_37_33
  have q5 := hit_37
  go_enter Yba.func3, Yba.ntmps3
  go_wp2
  go_ret
  refine ⟨rfl, ?_⟩
  go_grown

set_option maxRecDepth 100000 in
set_option maxHeartbeats 400000 in
theorem kinds_6 (a0 a1 : Int) (a2 : ByteArray) (a3 : Option Addr) (len3 cap3 : Nat) (w : World) (h0 : 0 ≤ a0) (h1 : a0 ≤ 255) (h2 : 0 ≤ a1) (h3 : a1 ≤ 18446744073709551615) (hr : a0 % 13 = 6) :
    Calls Yba.prog 3 #[.int .u8 a0, .int .u64 a1, .string a2, .slice a3 len3 cap3] w fun e w' => e = .returned (.bool true) ∧ Below w.heap.size w w' := by
  have q0 := miss_39_22
  have q1 := miss_39_32
  have q2 := miss_39_23
  have q3 := miss_39_9
  have q4 := miss_39_33
  have q5 := miss_39_37
  have q6 := hit_39
  go_enter Yba.func3, Yba.ntmps3
  go_wp2
  go_ret
  refine ⟨rfl, ?_⟩
  go_grown

set_option maxRecDepth 100000 in
set_option maxHeartbeats 400000 in
theorem kinds_7 (a0 a1 : Int) (a2 : ByteArray) (a3 : Option Addr) (len3 cap3 : Nat) (w : World) (h0 : 0 ≤ a0) (h1 : a0 ≤ 255) (h2 : 0 ≤ a1) (h3 : a1 ≤ 18446744073709551615) (hr : a0 % 13 = 7) :
    Calls Yba.prog 3 #[.int .u8 a0, .int .u64 a1, .string a2, .slice a3 len3 cap3] w fun e w' => e = .returned (.bool true) ∧ Below w.heap.size w w' := by
  have q0 := miss_4_22
  have q1 := miss_4_32
  have q2 := miss_4_23
  have q3 := miss_4_9
  have q4 := miss_4_33
  have q5 := miss_4_37
  have q6 := miss_4_39
  have q7 := hit_4
  go_enter Yba.func3, Yba.ntmps3
  go_wp2
  go_ret
  refine ⟨rfl, ?_⟩
  go_grown

set_option maxRecDepth 100000 in
set_option maxHeartbeats 400000 in
theorem kinds_8 (a0 a1 : Int) (a2 : ByteArray) (a3 : Option Addr) (len3 cap3 : Nat) (w : World) (h0 : 0 ≤ a0) (h1 : a0 ≤ 255) (h2 : 0 ≤ a1) (h3 : a1 ≤ 18446744073709551615) (hr : a0 % 13 = 8) :
    Calls Yba.prog 3 #[.int .u8 a0, .int .u64 a1, .string a2, .slice a3 len3 cap3] w fun e w' => e = .returned (.bool true) ∧ Below w.heap.size w w' := by
  have q0 := miss_40_22
  have q1 := miss_40_32
  have q2 := miss_40_23
  have q3 := miss_40_9
  have q4 := miss_40_33
  have q5 := miss_40_37
  have q6 := miss_40_39
  have q7 := miss_40_4
  have q8 := hit_40
  have q9 := frombits
  go_enter Yba.func3, Yba.ntmps3
  go_wp2
  go_ret
  refine ⟨rfl, ?_⟩
  go_grown

set_option maxRecDepth 100000 in
set_option maxHeartbeats 400000 in
theorem kinds_9 (a0 a1 : Int) (a2 : ByteArray) (a3 : Option Addr) (len3 cap3 : Nat) (w : World) (h0 : 0 ≤ a0) (h1 : a0 ≤ 255) (h2 : 0 ≤ a1) (h3 : a1 ≤ 18446744073709551615) (hr : a0 % 13 = 9) :
    Calls Yba.prog 3 #[.int .u8 a0, .int .u64 a1, .string a2, .slice a3 len3 cap3] w fun e w' => e = .returned (.bool true) ∧ Below w.heap.size w w' := by
  have q0 := miss_42_22
  have q1 := miss_42_32
  have q2 := miss_42_23
  have q3 := miss_42_9
  have q4 := miss_42_33
  have q5 := miss_42_37
  have q6 := miss_42_39
  have q7 := miss_42_4
  have q8 := miss_42_40
  have q9 := hit_42
  go_enter Yba.func3, Yba.ntmps3
  go_wp2
  go_ret
  refine ⟨rfl, ?_⟩
  go_grown

set_option maxRecDepth 100000 in
set_option maxHeartbeats 400000 in
theorem kinds_10 (a0 a1 : Int) (a2 : ByteArray) (a3 : Option Addr) (len3 cap3 : Nat) (w : World) (h0 : 0 ≤ a0) (h1 : a0 ≤ 255) (h2 : 0 ≤ a1) (h3 : a1 ≤ 18446744073709551615) (hr : a0 % 13 = 10) :
    Calls Yba.prog 3 #[.int .u8 a0, .int .u64 a1, .string a2, .slice a3 len3 cap3] w fun e w' => e = .returned (.bool true) ∧ Below w.heap.size w w' := by
  have q0 := miss_nil_22
  have q1 := miss_nil_32
  have q2 := miss_nil_23
  have q3 := miss_nil_9
  have q4 := miss_nil_33
  have q5 := miss_nil_37
  have q6 := miss_nil_39
  have q7 := miss_nil_4
  have q8 := miss_nil_40
  have q9 := miss_nil_42
  go_enter Yba.func3, Yba.ntmps3
  go_wp2
  go_ret
  refine ⟨rfl, ?_⟩
  go_grown

set_option maxRecDepth 100000 in
set_option maxHeartbeats 400000 in
theorem kinds_11 (a0 a1 : Int) (a2 : ByteArray) (a3 : Option Addr) (len3 cap3 : Nat) (w : World) (h0 : 0 ≤ a0) (h1 : a0 ≤ 255) (h2 : 0 ≤ a1) (h3 : a1 ≤ 18446744073709551615) (hr : a0 % 13 = 11) :
    Calls Yba.prog 3 #[.int .u8 a0, .int .u64 a1, .string a2, .slice a3 len3 cap3] w fun e w' => e = .returned (.bool true) ∧ Below w.heap.size w w' := by
  have q0 := miss_2_22
  have q1 := miss_2_32
  have q2 := miss_2_23
  have q3 := miss_2_9
  have q4 := miss_2_33
  have q5 := miss_2_37
  have q6 := miss_2_39
  have q7 := miss_2_4
  have q8 := miss_2_40
  have q9 := miss_2_42
  go_enter Yba.func3, Yba.ntmps3
  go_wp2
  go_ret
  refine ⟨rfl, ?_⟩
  go_grown

set_option maxRecDepth 100000 in
set_option maxHeartbeats 400000 in
theorem kinds_12 (a0 a1 : Int) (a2 : ByteArray) (a3 : Option Addr) (len3 cap3 : Nat) (w : World) (h0 : 0 ≤ a0) (h1 : a0 ≤ 255) (h2 : 0 ≤ a1) (h3 : a1 ≤ 18446744073709551615) (hr : a0 % 13 = 12) :
    Calls Yba.prog 3 #[.int .u8 a0, .int .u64 a1, .string a2, .slice a3 len3 cap3] w fun e w' => e = .returned (.bool true) ∧ Below w.heap.size w w' := by
  have q0 := miss_5_22
  have q1 := miss_5_32
  have q2 := miss_5_23
  have q3 := miss_5_9
  have q4 := miss_5_33
  have q5 := miss_5_37
  have q6 := miss_5_39
  have q7 := miss_5_4
  have q8 := miss_5_40
  have q9 := miss_5_42
  go_enter Yba.func3, Yba.ntmps3
  go_wp2
  go_ret
  refine ⟨rfl, ?_⟩
  go_grown

end Go.Proofs.Ybulkabws
