import Derived.Test.YbulkabuoRows
import Derived.WalkKit
import Derived.WalkSpells
import Derived.WalkLawsBesides
import Derived.Below
import Derived.LaidEql
import Derived.LaidEqlPtr
import Derived.Lib.Builder
import Derived.Deep.QuietTactic
import Derived.BigQuiet
import Derived.Handy
namespace Go.Proofs.Ybulkabuo.lawS1392BDelegates
open Go.RowKit

theorem size46 : (Yba.prog.info? 46).isSome = true := by kernel_rfl
theorem size5 : (Yba.prog.info? 5).isSome = true := by kernel_rfl
theorem size32 : (Yba.prog.info? 32).isSome = true := by kernel_rfl
theorem size70 : (Yba.prog.info? 70).isSome = true := by kernel_rfl
theorem comp27 : (Yba.prog.info? 27).map (·.comparable) = some true := by kernel_rfl
theorem comp68 : (Yba.prog.info? 68).map (·.comparable) = some true := by kernel_rfl

theorem neq30 (a : Addr) (w : World) : (binOp .neq 30 (.pointer (some a)) (.pointer (some a))).run Yba.prog w = .ok (.bool false) w := by
  obtain ⟨j, hj⟩ := Option.isSome_iff_exists.1 size46
  exact Lib.run_neq_ptr_same w a Yba.underlying30 hj
theorem neq51 (a : Addr) (w : World) : (binOp .neq 51 (.pointer (some a)) (.pointer (some a))).run Yba.prog w = .ok (.bool false) w := by
  obtain ⟨j, hj⟩ := Option.isSome_iff_exists.1 size5
  exact Lib.run_neq_ptr_same w a Yba.underlying51 hj
theorem eql48 (a : Addr) (w : World) : (binOp .eql 48 (.iface 27 (.pointer (some a))) (.iface 27 (.pointer (some a)))).run Yba.prog w = .ok (.bool true) w := by
  obtain ⟨i, hi, hc⟩ := Option.map_eq_some_iff.1 comp27
  obtain ⟨j, hj⟩ := Option.isSome_iff_exists.1 size32
  exact run_eql_iface_ptr_same w a Yba.underlying48 Yba.underlying27 hi hc hj
theorem eql25 (a : Addr) (w : World) : (binOp .eql 25 (.iface 68 (.pointer (some a))) (.iface 68 (.pointer (some a)))).run Yba.prog w = .ok (.bool true) w := by
  obtain ⟨i, hi, hc⟩ := Option.map_eq_some_iff.1 comp68
  obtain ⟨j, hj⟩ := Option.isSome_iff_exists.1 size70
  exact run_eql_iface_ptr_same w a Yba.underlying25 Yba.underlying68 hi hc hj

set_option maxRecDepth 100000 in
set_option maxHeartbeats 400000 in
theorem walk_ok_zero (a0 a1 a2 a3 a4 : Int) (w : World) (a5 : Option Addr) (cap5 : Nat) :
    Calls Yba.prog 3 #[.int .u8 a0, .int .u8 a1, .int .u8 a2, .int .u8 a3, .int .u16 a4, .slice a5 0 cap5, .bool false] w fun e w' => e = .returned (.bool true) ∧ Below w.heap.size w w' := by
  have h30 := neq30
  have h51 := neq51
  have h48 := eql48
  have h25 := eql25
  go_enter Yba.func3, Yba.ntmps3
  go_wp2
  go_quiet (fail)
  go_wp2
  go_ret
  refine ⟨rfl, ?_⟩
  refine below_drewN ?_ _
  go_grown

set_option maxRecDepth 100000 in
set_option maxHeartbeats 400000 in
theorem walk_fail_zero (a0 a1 a2 a3 a4 : Int) (w : World) (a5 : Option Addr) (cap5 : Nat) :
    Calls Yba.prog 3 #[.int .u8 a0, .int .u8 a1, .int .u8 a2, .int .u8 a3, .int .u16 a4, .slice a5 0 cap5, .bool true] w fun e w' => e = .returned (.bool true) ∧ Below w.heap.size w w' := by
  have h30 := neq30
  have h51 := neq51
  have h48 := eql48
  have h25 := eql25
  go_enter Yba.func3, Yba.ntmps3
  go_wp2
  go_quiet (fail)
  go_wp2
  go_ret
  refine ⟨rfl, ?_⟩
  refine below_drewN ?_ _
  go_grown

set_option maxRecDepth 100000 in
set_option maxHeartbeats 400000 in
theorem walk_ok_pos (a0 a1 a2 a3 a4 : Int) (w : World) (x : Addr) (len5 cap5 : Nat) (hl : 0 < len5) :
    Calls Yba.prog 3 #[.int .u8 a0, .int .u8 a1, .int .u8 a2, .int .u8 a3, .int .u16 a4, .slice (some x) len5 cap5, .bool false] w fun e w' => e = .returned (.bool true) ∧ Below w.heap.size w w' := by
  have h30 := neq30
  have h51 := neq51
  have h48 := eql48
  have h25 := eql25
  have hl1 : ¬ (len5 : Int) ≤ 0 := by omega
  go_enter Yba.func3, Yba.ntmps3
  go_wp2
  go_quiet (fail)
  go_wp2
  go_ret
  refine ⟨rfl, ?_⟩
  refine below_drewN ?_ _
  go_grown

set_option maxRecDepth 100000 in
set_option maxHeartbeats 400000 in
theorem walk_fail_pos (a0 a1 a2 a3 a4 : Int) (w : World) (x : Addr) (len5 cap5 : Nat) (hl : 0 < len5) :
    Calls Yba.prog 3 #[.int .u8 a0, .int .u8 a1, .int .u8 a2, .int .u8 a3, .int .u16 a4, .slice (some x) len5 cap5, .bool true] w fun e w' => e = .returned (.bool true) ∧ Below w.heap.size w w' := by
  have h30 := neq30
  have h51 := neq51
  have h48 := eql48
  have h25 := eql25
  have hl1 : ¬ (len5 : Int) ≤ 0 := by omega
  go_enter Yba.func3, Yba.ntmps3
  go_wp2
  go_quiet (fail)
  go_wp2
  go_ret
  refine ⟨rfl, ?_⟩
  refine below_drewN ?_ _
  go_grown

end Go.Proofs.Ybulkabuo.lawS1392BDelegates
