/- impl.kindOf. -/
import Derived.Test.YtnhccgbkalpcnaaGreatDoorRep
namespace Go.Proofs.YtnhccgbkalpcnaaGreatDoor
open Go.RowKit

theorem nil_no (T : TypeId) (q : Addr) (W : World) : (binOp .eql 38 (.iface T (.pointer (some q))) .nilIface).run Tryz.prog W = .ok (.bool false) W := by kernel_rfl
theorem nil_ne (T : TypeId) (q : Addr) (W : World) : (binOp .neq 38 (.iface T (.pointer (some q))) .nilIface).run Tryz.prog W = .ok (.bool true) W := by kernel_rfl
theorem nil_yes (W : World) : (binOp .eql 38 .nilIface .nilIface).run Tryz.prog W = .ok (.bool true) W := by kernel_rfl
theorem nil_nn (W : World) : (binOp .neq 38 .nilIface .nilIface).run Tryz.prog W = .ok (.bool false) W := by kernel_rfl

set_option maxRecDepth 100000 in
set_option maxHeartbeats 2000000 in
theorem kindOf_name (a : Addr) (w : World) : Calls Tryz.prog 23 #[.iface 45 (.pointer (some a))] w fun e w' => e = .returned (.string ⟨#[78, 97, 109, 101]⟩) ∧ w = w' := by
  have tName := fun W => (show (Instr.typeAssert (.iface 45 (.pointer (some a))) 38 45 true).run Tryz.prog W = .ok (.tuple #[.pointer (some a), .bool true]) W from by kernel_rfl)
  have hnil := fun W => nil_no 45 a W
  go_enter Tryz.func23, Tryz.ntmps23
  go_wp2_with fail
  go_ret
  exact ⟨rfl, rfl⟩

set_option maxRecDepth 100000 in
set_option maxHeartbeats 2000000 in
theorem kindOf_builtinType (a : Addr) (w : World) : Calls Tryz.prog 23 #[.iface 53 (.pointer (some a))] w fun e w' => e = .returned (.string ⟨#[66, 117, 105, 108, 116, 105, 110, 84, 121, 112, 101]⟩) ∧ w = w' := by
  have tName := fun W => (show (Instr.typeAssert (.iface 53 (.pointer (some a))) 38 45 true).run Tryz.prog W = .ok (.tuple #[.pointer none, .bool false]) W from by kernel_rfl)
  have tBuiltinType := fun W => (show (Instr.typeAssert (.iface 53 (.pointer (some a))) 38 53 true).run Tryz.prog W = .ok (.tuple #[.pointer (some a), .bool true]) W from by kernel_rfl)
  have hnil := fun W => nil_no 53 a W
  go_enter Tryz.func23, Tryz.ntmps23
  go_wp2_with fail
  go_ret
  exact ⟨rfl, rfl⟩

set_option maxRecDepth 100000 in
set_option maxHeartbeats 2000000 in
theorem kindOf_operator (a : Addr) (w : World) : Calls Tryz.prog 23 #[.iface 55 (.pointer (some a))] w fun e w' => e = .returned (.string ⟨#[79, 112, 101, 114, 97, 116, 111, 114]⟩) ∧ w = w' := by
  have tName := fun W => (show (Instr.typeAssert (.iface 55 (.pointer (some a))) 38 45 true).run Tryz.prog W = .ok (.tuple #[.pointer none, .bool false]) W from by kernel_rfl)
  have tBuiltinType := fun W => (show (Instr.typeAssert (.iface 55 (.pointer (some a))) 38 53 true).run Tryz.prog W = .ok (.tuple #[.pointer none, .bool false]) W from by kernel_rfl)
  have tOperator := fun W => (show (Instr.typeAssert (.iface 55 (.pointer (some a))) 38 55 true).run Tryz.prog W = .ok (.tuple #[.pointer (some a), .bool true]) W from by kernel_rfl)
  have hnil := fun W => nil_no 55 a W
  go_enter Tryz.func23, Tryz.ntmps23
  go_wp2_with fail
  go_ret
  exact ⟨rfl, rfl⟩

set_option maxRecDepth 100000 in
set_option maxHeartbeats 2000000 in
theorem kindOf_constructor (a : Addr) (w : World) : Calls Tryz.prog 23 #[.iface 59 (.pointer (some a))] w fun e w' => e = .returned (.string ⟨#[67, 111, 110, 115, 116, 114, 117, 99, 116, 111, 114]⟩) ∧ w = w' := by
  have tName := fun W => (show (Instr.typeAssert (.iface 59 (.pointer (some a))) 38 45 true).run Tryz.prog W = .ok (.tuple #[.pointer none, .bool false]) W from by kernel_rfl)
  have tBuiltinType := fun W => (show (Instr.typeAssert (.iface 59 (.pointer (some a))) 38 53 true).run Tryz.prog W = .ok (.tuple #[.pointer none, .bool false]) W from by kernel_rfl)
  have tOperator := fun W => (show (Instr.typeAssert (.iface 59 (.pointer (some a))) 38 55 true).run Tryz.prog W = .ok (.tuple #[.pointer none, .bool false]) W from by kernel_rfl)
  have tConstructor := fun W => (show (Instr.typeAssert (.iface 59 (.pointer (some a))) 38 59 true).run Tryz.prog W = .ok (.tuple #[.pointer (some a), .bool true]) W from by kernel_rfl)
  have hnil := fun W => nil_no 59 a W
  go_enter Tryz.func23, Tryz.ntmps23
  go_wp2_with fail
  go_ret
  exact ⟨rfl, rfl⟩

set_option maxRecDepth 100000 in
set_option maxHeartbeats 2000000 in
theorem kindOf_destructor (a : Addr) (w : World) : Calls Tryz.prog 23 #[.iface 63 (.pointer (some a))] w fun e w' => e = .returned (.string ⟨#[68, 101, 115, 116, 114, 117, 99, 116, 111, 114]⟩) ∧ w = w' := by
  have tName := fun W => (show (Instr.typeAssert (.iface 63 (.pointer (some a))) 38 45 true).run Tryz.prog W = .ok (.tuple #[.pointer none, .bool false]) W from by kernel_rfl)
  have tBuiltinType := fun W => (show (Instr.typeAssert (.iface 63 (.pointer (some a))) 38 53 true).run Tryz.prog W = .ok (.tuple #[.pointer none, .bool false]) W from by kernel_rfl)
  have tOperator := fun W => (show (Instr.typeAssert (.iface 63 (.pointer (some a))) 38 55 true).run Tryz.prog W = .ok (.tuple #[.pointer none, .bool false]) W from by kernel_rfl)
  have tConstructor := fun W => (show (Instr.typeAssert (.iface 63 (.pointer (some a))) 38 59 true).run Tryz.prog W = .ok (.tuple #[.pointer none, .bool false]) W from by kernel_rfl)
  have tDestructor := fun W => (show (Instr.typeAssert (.iface 63 (.pointer (some a))) 38 63 true).run Tryz.prog W = .ok (.tuple #[.pointer (some a), .bool true]) W from by kernel_rfl)
  have hnil := fun W => nil_no 63 a W
  go_enter Tryz.func23, Tryz.ntmps23
  go_wp2_with fail
  go_ret
  exact ⟨rfl, rfl⟩

set_option maxRecDepth 100000 in
set_option maxHeartbeats 2000000 in
theorem kindOf_qualified (a : Addr) (w : World) : Calls Tryz.prog 23 #[.iface 66 (.pointer (some a))] w fun e w' => e = .returned (.string ⟨#[81, 117, 97, 108, 105, 102, 105, 101, 100]⟩) ∧ w = w' := by
  have tName := fun W => (show (Instr.typeAssert (.iface 66 (.pointer (some a))) 38 45 true).run Tryz.prog W = .ok (.tuple #[.pointer none, .bool false]) W from by kernel_rfl)
  have tBuiltinType := fun W => (show (Instr.typeAssert (.iface 66 (.pointer (some a))) 38 53 true).run Tryz.prog W = .ok (.tuple #[.pointer none, .bool false]) W from by kernel_rfl)
  have tOperator := fun W => (show (Instr.typeAssert (.iface 66 (.pointer (some a))) 38 55 true).run Tryz.prog W = .ok (.tuple #[.pointer none, .bool false]) W from by kernel_rfl)
  have tConstructor := fun W => (show (Instr.typeAssert (.iface 66 (.pointer (some a))) 38 59 true).run Tryz.prog W = .ok (.tuple #[.pointer none, .bool false]) W from by kernel_rfl)
  have tDestructor := fun W => (show (Instr.typeAssert (.iface 66 (.pointer (some a))) 38 63 true).run Tryz.prog W = .ok (.tuple #[.pointer none, .bool false]) W from by kernel_rfl)
  have tQualified := fun W => (show (Instr.typeAssert (.iface 66 (.pointer (some a))) 38 66 true).run Tryz.prog W = .ok (.tuple #[.pointer (some a), .bool true]) W from by kernel_rfl)
  have hnil := fun W => nil_no 66 a W
  go_enter Tryz.func23, Tryz.ntmps23
  go_wp2_with fail
  go_ret
  exact ⟨rfl, rfl⟩

set_option maxRecDepth 100000 in
set_option maxHeartbeats 2000000 in
theorem kindOf_template (a : Addr) (w : World) : Calls Tryz.prog 23 #[.iface 69 (.pointer (some a))] w fun e w' => e = .returned (.string ⟨#[84, 101, 109, 112, 108, 97, 116, 101]⟩) ∧ w = w' := by
  have tName := fun W => (show (Instr.typeAssert (.iface 69 (.pointer (some a))) 38 45 true).run Tryz.prog W = .ok (.tuple #[.pointer none, .bool false]) W from by kernel_rfl)
  have tBuiltinType := fun W => (show (Instr.typeAssert (.iface 69 (.pointer (some a))) 38 53 true).run Tryz.prog W = .ok (.tuple #[.pointer none, .bool false]) W from by kernel_rfl)
  have tOperator := fun W => (show (Instr.typeAssert (.iface 69 (.pointer (some a))) 38 55 true).run Tryz.prog W = .ok (.tuple #[.pointer none, .bool false]) W from by kernel_rfl)
  have tConstructor := fun W => (show (Instr.typeAssert (.iface 69 (.pointer (some a))) 38 59 true).run Tryz.prog W = .ok (.tuple #[.pointer none, .bool false]) W from by kernel_rfl)
  have tDestructor := fun W => (show (Instr.typeAssert (.iface 69 (.pointer (some a))) 38 63 true).run Tryz.prog W = .ok (.tuple #[.pointer none, .bool false]) W from by kernel_rfl)
  have tQualified := fun W => (show (Instr.typeAssert (.iface 69 (.pointer (some a))) 38 66 true).run Tryz.prog W = .ok (.tuple #[.pointer none, .bool false]) W from by kernel_rfl)
  have tTemplate := fun W => (show (Instr.typeAssert (.iface 69 (.pointer (some a))) 38 69 true).run Tryz.prog W = .ok (.tuple #[.pointer (some a), .bool true]) W from by kernel_rfl)
  have hnil := fun W => nil_no 69 a W
  go_enter Tryz.func23, Tryz.ntmps23
  go_wp2_with fail
  go_ret
  exact ⟨rfl, rfl⟩

set_option maxRecDepth 100000 in
set_option maxHeartbeats 2000000 in
theorem kindOf_typed (a : Addr) (w : World) : Calls Tryz.prog 23 #[.iface 74 (.pointer (some a))] w fun e w' => e = .returned (.string ⟨#[84, 121, 112, 101, 100]⟩) ∧ w = w' := by
  have tName := fun W => (show (Instr.typeAssert (.iface 74 (.pointer (some a))) 38 45 true).run Tryz.prog W = .ok (.tuple #[.pointer none, .bool false]) W from by kernel_rfl)
  have tBuiltinType := fun W => (show (Instr.typeAssert (.iface 74 (.pointer (some a))) 38 53 true).run Tryz.prog W = .ok (.tuple #[.pointer none, .bool false]) W from by kernel_rfl)
  have tOperator := fun W => (show (Instr.typeAssert (.iface 74 (.pointer (some a))) 38 55 true).run Tryz.prog W = .ok (.tuple #[.pointer none, .bool false]) W from by kernel_rfl)
  have tConstructor := fun W => (show (Instr.typeAssert (.iface 74 (.pointer (some a))) 38 59 true).run Tryz.prog W = .ok (.tuple #[.pointer none, .bool false]) W from by kernel_rfl)
  have tDestructor := fun W => (show (Instr.typeAssert (.iface 74 (.pointer (some a))) 38 63 true).run Tryz.prog W = .ok (.tuple #[.pointer none, .bool false]) W from by kernel_rfl)
  have tQualified := fun W => (show (Instr.typeAssert (.iface 74 (.pointer (some a))) 38 66 true).run Tryz.prog W = .ok (.tuple #[.pointer none, .bool false]) W from by kernel_rfl)
  have tTemplate := fun W => (show (Instr.typeAssert (.iface 74 (.pointer (some a))) 38 69 true).run Tryz.prog W = .ok (.tuple #[.pointer none, .bool false]) W from by kernel_rfl)
  have tTyped := fun W => (show (Instr.typeAssert (.iface 74 (.pointer (some a))) 38 74 true).run Tryz.prog W = .ok (.tuple #[.pointer (some a), .bool true]) W from by kernel_rfl)
  have hnil := fun W => nil_no 74 a W
  go_enter Tryz.func23, Tryz.ntmps23
  go_wp2_with fail
  go_ret
  exact ⟨rfl, rfl⟩

set_option maxRecDepth 100000 in
set_option maxHeartbeats 2000000 in
theorem kindOf_functionType (a : Addr) (w : World) : Calls Tryz.prog 23 #[.iface 77 (.pointer (some a))] w fun e w' => e = .returned (.string ⟨#[70, 117, 110, 99, 116, 105, 111, 110, 84, 121, 112, 101]⟩) ∧ w = w' := by
  have tName := fun W => (show (Instr.typeAssert (.iface 77 (.pointer (some a))) 38 45 true).run Tryz.prog W = .ok (.tuple #[.pointer none, .bool false]) W from by kernel_rfl)
  have tBuiltinType := fun W => (show (Instr.typeAssert (.iface 77 (.pointer (some a))) 38 53 true).run Tryz.prog W = .ok (.tuple #[.pointer none, .bool false]) W from by kernel_rfl)
  have tOperator := fun W => (show (Instr.typeAssert (.iface 77 (.pointer (some a))) 38 55 true).run Tryz.prog W = .ok (.tuple #[.pointer none, .bool false]) W from by kernel_rfl)
  have tConstructor := fun W => (show (Instr.typeAssert (.iface 77 (.pointer (some a))) 38 59 true).run Tryz.prog W = .ok (.tuple #[.pointer none, .bool false]) W from by kernel_rfl)
  have tDestructor := fun W => (show (Instr.typeAssert (.iface 77 (.pointer (some a))) 38 63 true).run Tryz.prog W = .ok (.tuple #[.pointer none, .bool false]) W from by kernel_rfl)
  have tQualified := fun W => (show (Instr.typeAssert (.iface 77 (.pointer (some a))) 38 66 true).run Tryz.prog W = .ok (.tuple #[.pointer none, .bool false]) W from by kernel_rfl)
  have tTemplate := fun W => (show (Instr.typeAssert (.iface 77 (.pointer (some a))) 38 69 true).run Tryz.prog W = .ok (.tuple #[.pointer none, .bool false]) W from by kernel_rfl)
  have tTyped := fun W => (show (Instr.typeAssert (.iface 77 (.pointer (some a))) 38 74 true).run Tryz.prog W = .ok (.tuple #[.pointer none, .bool false]) W from by kernel_rfl)
  have tFunctionType := fun W => (show (Instr.typeAssert (.iface 77 (.pointer (some a))) 38 77 true).run Tryz.prog W = .ok (.tuple #[.pointer (some a), .bool true]) W from by kernel_rfl)
  have hnil := fun W => nil_no 77 a W
  go_enter Tryz.func23, Tryz.ntmps23
  go_wp2_with fail
  go_ret
  exact ⟨rfl, rfl⟩

set_option maxRecDepth 100000 in
set_option maxHeartbeats 2000000 in
theorem kindOf_pointerType (a : Addr) (w : World) : Calls Tryz.prog 23 #[.iface 80 (.pointer (some a))] w fun e w' => e = .returned (.string ⟨#[80, 111, 105, 110, 116, 101, 114, 84, 121, 112, 101]⟩) ∧ w = w' := by
  have tName := fun W => (show (Instr.typeAssert (.iface 80 (.pointer (some a))) 38 45 true).run Tryz.prog W = .ok (.tuple #[.pointer none, .bool false]) W from by kernel_rfl)
  have tBuiltinType := fun W => (show (Instr.typeAssert (.iface 80 (.pointer (some a))) 38 53 true).run Tryz.prog W = .ok (.tuple #[.pointer none, .bool false]) W from by kernel_rfl)
  have tOperator := fun W => (show (Instr.typeAssert (.iface 80 (.pointer (some a))) 38 55 true).run Tryz.prog W = .ok (.tuple #[.pointer none, .bool false]) W from by kernel_rfl)
  have tConstructor := fun W => (show (Instr.typeAssert (.iface 80 (.pointer (some a))) 38 59 true).run Tryz.prog W = .ok (.tuple #[.pointer none, .bool false]) W from by kernel_rfl)
  have tDestructor := fun W => (show (Instr.typeAssert (.iface 80 (.pointer (some a))) 38 63 true).run Tryz.prog W = .ok (.tuple #[.pointer none, .bool false]) W from by kernel_rfl)
  have tQualified := fun W => (show (Instr.typeAssert (.iface 80 (.pointer (some a))) 38 66 true).run Tryz.prog W = .ok (.tuple #[.pointer none, .bool false]) W from by kernel_rfl)
  have tTemplate := fun W => (show (Instr.typeAssert (.iface 80 (.pointer (some a))) 38 69 true).run Tryz.prog W = .ok (.tuple #[.pointer none, .bool false]) W from by kernel_rfl)
  have tTyped := fun W => (show (Instr.typeAssert (.iface 80 (.pointer (some a))) 38 74 true).run Tryz.prog W = .ok (.tuple #[.pointer none, .bool false]) W from by kernel_rfl)
  have tFunctionType := fun W => (show (Instr.typeAssert (.iface 80 (.pointer (some a))) 38 77 true).run Tryz.prog W = .ok (.tuple #[.pointer none, .bool false]) W from by kernel_rfl)
  have tPointerType := fun W => (show (Instr.typeAssert (.iface 80 (.pointer (some a))) 38 80 true).run Tryz.prog W = .ok (.tuple #[.pointer (some a), .bool true]) W from by kernel_rfl)
  have hnil := fun W => nil_no 80 a W
  go_enter Tryz.func23, Tryz.ntmps23
  go_wp2_with fail
  go_ret
  exact ⟨rfl, rfl⟩

set_option maxRecDepth 100000 in
set_option maxHeartbeats 2000000 in
theorem kindOf_referenceType (a : Addr) (w : World) : Calls Tryz.prog 23 #[.iface 83 (.pointer (some a))] w fun e w' => e = .returned (.string ⟨#[82, 101, 102, 101, 114, 101, 110, 99, 101, 84, 121, 112, 101]⟩) ∧ w = w' := by
  have tName := fun W => (show (Instr.typeAssert (.iface 83 (.pointer (some a))) 38 45 true).run Tryz.prog W = .ok (.tuple #[.pointer none, .bool false]) W from by kernel_rfl)
  have tBuiltinType := fun W => (show (Instr.typeAssert (.iface 83 (.pointer (some a))) 38 53 true).run Tryz.prog W = .ok (.tuple #[.pointer none, .bool false]) W from by kernel_rfl)
  have tOperator := fun W => (show (Instr.typeAssert (.iface 83 (.pointer (some a))) 38 55 true).run Tryz.prog W = .ok (.tuple #[.pointer none, .bool false]) W from by kernel_rfl)
  have tConstructor := fun W => (show (Instr.typeAssert (.iface 83 (.pointer (some a))) 38 59 true).run Tryz.prog W = .ok (.tuple #[.pointer none, .bool false]) W from by kernel_rfl)
  have tDestructor := fun W => (show (Instr.typeAssert (.iface 83 (.pointer (some a))) 38 63 true).run Tryz.prog W = .ok (.tuple #[.pointer none, .bool false]) W from by kernel_rfl)
  have tQualified := fun W => (show (Instr.typeAssert (.iface 83 (.pointer (some a))) 38 66 true).run Tryz.prog W = .ok (.tuple #[.pointer none, .bool false]) W from by kernel_rfl)
  have tTemplate := fun W => (show (Instr.typeAssert (.iface 83 (.pointer (some a))) 38 69 true).run Tryz.prog W = .ok (.tuple #[.pointer none, .bool false]) W from by kernel_rfl)
  have tTyped := fun W => (show (Instr.typeAssert (.iface 83 (.pointer (some a))) 38 74 true).run Tryz.prog W = .ok (.tuple #[.pointer none, .bool false]) W from by kernel_rfl)
  have tFunctionType := fun W => (show (Instr.typeAssert (.iface 83 (.pointer (some a))) 38 77 true).run Tryz.prog W = .ok (.tuple #[.pointer none, .bool false]) W from by kernel_rfl)
  have tPointerType := fun W => (show (Instr.typeAssert (.iface 83 (.pointer (some a))) 38 80 true).run Tryz.prog W = .ok (.tuple #[.pointer none, .bool false]) W from by kernel_rfl)
  have tReferenceType := fun W => (show (Instr.typeAssert (.iface 83 (.pointer (some a))) 38 83 true).run Tryz.prog W = .ok (.tuple #[.pointer (some a), .bool true]) W from by kernel_rfl)
  have hnil := fun W => nil_no 83 a W
  go_enter Tryz.func23, Tryz.ntmps23
  go_wp2_with fail
  go_ret
  exact ⟨rfl, rfl⟩

set_option maxRecDepth 100000 in
set_option maxHeartbeats 2000000 in
theorem kindOf_rvalueReferenceType (a : Addr) (w : World) : Calls Tryz.prog 23 #[.iface 85 (.pointer (some a))] w fun e w' => e = .returned (.string ⟨#[82, 118, 97, 108, 117, 101, 82, 101, 102, 101, 114, 101, 110, 99, 101, 84, 121, 112, 101]⟩) ∧ w = w' := by
  have tName := fun W => (show (Instr.typeAssert (.iface 85 (.pointer (some a))) 38 45 true).run Tryz.prog W = .ok (.tuple #[.pointer none, .bool false]) W from by kernel_rfl)
  have tBuiltinType := fun W => (show (Instr.typeAssert (.iface 85 (.pointer (some a))) 38 53 true).run Tryz.prog W = .ok (.tuple #[.pointer none, .bool false]) W from by kernel_rfl)
  have tOperator := fun W => (show (Instr.typeAssert (.iface 85 (.pointer (some a))) 38 55 true).run Tryz.prog W = .ok (.tuple #[.pointer none, .bool false]) W from by kernel_rfl)
  have tConstructor := fun W => (show (Instr.typeAssert (.iface 85 (.pointer (some a))) 38 59 true).run Tryz.prog W = .ok (.tuple #[.pointer none, .bool false]) W from by kernel_rfl)
  have tDestructor := fun W => (show (Instr.typeAssert (.iface 85 (.pointer (some a))) 38 63 true).run Tryz.prog W = .ok (.tuple #[.pointer none, .bool false]) W from by kernel_rfl)
  have tQualified := fun W => (show (Instr.typeAssert (.iface 85 (.pointer (some a))) 38 66 true).run Tryz.prog W = .ok (.tuple #[.pointer none, .bool false]) W from by kernel_rfl)
  have tTemplate := fun W => (show (Instr.typeAssert (.iface 85 (.pointer (some a))) 38 69 true).run Tryz.prog W = .ok (.tuple #[.pointer none, .bool false]) W from by kernel_rfl)
  have tTyped := fun W => (show (Instr.typeAssert (.iface 85 (.pointer (some a))) 38 74 true).run Tryz.prog W = .ok (.tuple #[.pointer none, .bool false]) W from by kernel_rfl)
  have tFunctionType := fun W => (show (Instr.typeAssert (.iface 85 (.pointer (some a))) 38 77 true).run Tryz.prog W = .ok (.tuple #[.pointer none, .bool false]) W from by kernel_rfl)
  have tPointerType := fun W => (show (Instr.typeAssert (.iface 85 (.pointer (some a))) 38 80 true).run Tryz.prog W = .ok (.tuple #[.pointer none, .bool false]) W from by kernel_rfl)
  have tReferenceType := fun W => (show (Instr.typeAssert (.iface 85 (.pointer (some a))) 38 83 true).run Tryz.prog W = .ok (.tuple #[.pointer none, .bool false]) W from by kernel_rfl)
  have tRvalueReferenceType := fun W => (show (Instr.typeAssert (.iface 85 (.pointer (some a))) 38 85 true).run Tryz.prog W = .ok (.tuple #[.pointer (some a), .bool true]) W from by kernel_rfl)
  have hnil := fun W => nil_no 85 a W
  go_enter Tryz.func23, Tryz.ntmps23
  go_wp2_with fail
  go_ret
  exact ⟨rfl, rfl⟩

set_option maxRecDepth 100000 in
set_option maxHeartbeats 2000000 in
theorem kindOf_complexType (a : Addr) (w : World) : Calls Tryz.prog 23 #[.iface 87 (.pointer (some a))] w fun e w' => e = .returned (.string ⟨#[67, 111, 109, 112, 108, 101, 120, 84, 121, 112, 101]⟩) ∧ w = w' := by
  have tName := fun W => (show (Instr.typeAssert (.iface 87 (.pointer (some a))) 38 45 true).run Tryz.prog W = .ok (.tuple #[.pointer none, .bool false]) W from by kernel_rfl)
  have tBuiltinType := fun W => (show (Instr.typeAssert (.iface 87 (.pointer (some a))) 38 53 true).run Tryz.prog W = .ok (.tuple #[.pointer none, .bool false]) W from by kernel_rfl)
  have tOperator := fun W => (show (Instr.typeAssert (.iface 87 (.pointer (some a))) 38 55 true).run Tryz.prog W = .ok (.tuple #[.pointer none, .bool false]) W from by kernel_rfl)
  have tConstructor := fun W => (show (Instr.typeAssert (.iface 87 (.pointer (some a))) 38 59 true).run Tryz.prog W = .ok (.tuple #[.pointer none, .bool false]) W from by kernel_rfl)
  have tDestructor := fun W => (show (Instr.typeAssert (.iface 87 (.pointer (some a))) 38 63 true).run Tryz.prog W = .ok (.tuple #[.pointer none, .bool false]) W from by kernel_rfl)
  have tQualified := fun W => (show (Instr.typeAssert (.iface 87 (.pointer (some a))) 38 66 true).run Tryz.prog W = .ok (.tuple #[.pointer none, .bool false]) W from by kernel_rfl)
  have tTemplate := fun W => (show (Instr.typeAssert (.iface 87 (.pointer (some a))) 38 69 true).run Tryz.prog W = .ok (.tuple #[.pointer none, .bool false]) W from by kernel_rfl)
  have tTyped := fun W => (show (Instr.typeAssert (.iface 87 (.pointer (some a))) 38 74 true).run Tryz.prog W = .ok (.tuple #[.pointer none, .bool false]) W from by kernel_rfl)
  have tFunctionType := fun W => (show (Instr.typeAssert (.iface 87 (.pointer (some a))) 38 77 true).run Tryz.prog W = .ok (.tuple #[.pointer none, .bool false]) W from by kernel_rfl)
  have tPointerType := fun W => (show (Instr.typeAssert (.iface 87 (.pointer (some a))) 38 80 true).run Tryz.prog W = .ok (.tuple #[.pointer none, .bool false]) W from by kernel_rfl)
  have tReferenceType := fun W => (show (Instr.typeAssert (.iface 87 (.pointer (some a))) 38 83 true).run Tryz.prog W = .ok (.tuple #[.pointer none, .bool false]) W from by kernel_rfl)
  have tRvalueReferenceType := fun W => (show (Instr.typeAssert (.iface 87 (.pointer (some a))) 38 85 true).run Tryz.prog W = .ok (.tuple #[.pointer none, .bool false]) W from by kernel_rfl)
  have tComplexType := fun W => (show (Instr.typeAssert (.iface 87 (.pointer (some a))) 38 87 true).run Tryz.prog W = .ok (.tuple #[.pointer (some a), .bool true]) W from by kernel_rfl)
  have hnil := fun W => nil_no 87 a W
  go_enter Tryz.func23, Tryz.ntmps23
  go_wp2_with fail
  go_ret
  exact ⟨rfl, rfl⟩

set_option maxRecDepth 100000 in
set_option maxHeartbeats 2000000 in
theorem kindOf_imaginaryType (a : Addr) (w : World) : Calls Tryz.prog 23 #[.iface 89 (.pointer (some a))] w fun e w' => e = .returned (.string ⟨#[73, 109, 97, 103, 105, 110, 97, 114, 121, 84, 121, 112, 101]⟩) ∧ w = w' := by
  have tName := fun W => (show (Instr.typeAssert (.iface 89 (.pointer (some a))) 38 45 true).run Tryz.prog W = .ok (.tuple #[.pointer none, .bool false]) W from by kernel_rfl)
  have tBuiltinType := fun W => (show (Instr.typeAssert (.iface 89 (.pointer (some a))) 38 53 true).run Tryz.prog W = .ok (.tuple #[.pointer none, .bool false]) W from by kernel_rfl)
  have tOperator := fun W => (show (Instr.typeAssert (.iface 89 (.pointer (some a))) 38 55 true).run Tryz.prog W = .ok (.tuple #[.pointer none, .bool false]) W from by kernel_rfl)
  have tConstructor := fun W => (show (Instr.typeAssert (.iface 89 (.pointer (some a))) 38 59 true).run Tryz.prog W = .ok (.tuple #[.pointer none, .bool false]) W from by kernel_rfl)
  have tDestructor := fun W => (show (Instr.typeAssert (.iface 89 (.pointer (some a))) 38 63 true).run Tryz.prog W = .ok (.tuple #[.pointer none, .bool false]) W from by kernel_rfl)
  have tQualified := fun W => (show (Instr.typeAssert (.iface 89 (.pointer (some a))) 38 66 true).run Tryz.prog W = .ok (.tuple #[.pointer none, .bool false]) W from by kernel_rfl)
  have tTemplate := fun W => (show (Instr.typeAssert (.iface 89 (.pointer (some a))) 38 69 true).run Tryz.prog W = .ok (.tuple #[.pointer none, .bool false]) W from by kernel_rfl)
  have tTyped := fun W => (show (Instr.typeAssert (.iface 89 (.pointer (some a))) 38 74 true).run Tryz.prog W = .ok (.tuple #[.pointer none, .bool false]) W from by kernel_rfl)
  have tFunctionType := fun W => (show (Instr.typeAssert (.iface 89 (.pointer (some a))) 38 77 true).run Tryz.prog W = .ok (.tuple #[.pointer none, .bool false]) W from by kernel_rfl)
  have tPointerType := fun W => (show (Instr.typeAssert (.iface 89 (.pointer (some a))) 38 80 true).run Tryz.prog W = .ok (.tuple #[.pointer none, .bool false]) W from by kernel_rfl)
  have tReferenceType := fun W => (show (Instr.typeAssert (.iface 89 (.pointer (some a))) 38 83 true).run Tryz.prog W = .ok (.tuple #[.pointer none, .bool false]) W from by kernel_rfl)
  have tRvalueReferenceType := fun W => (show (Instr.typeAssert (.iface 89 (.pointer (some a))) 38 85 true).run Tryz.prog W = .ok (.tuple #[.pointer none, .bool false]) W from by kernel_rfl)
  have tComplexType := fun W => (show (Instr.typeAssert (.iface 89 (.pointer (some a))) 38 87 true).run Tryz.prog W = .ok (.tuple #[.pointer none, .bool false]) W from by kernel_rfl)
  have tImaginaryType := fun W => (show (Instr.typeAssert (.iface 89 (.pointer (some a))) 38 89 true).run Tryz.prog W = .ok (.tuple #[.pointer (some a), .bool true]) W from by kernel_rfl)
  have hnil := fun W => nil_no 89 a W
  go_enter Tryz.func23, Tryz.ntmps23
  go_wp2_with fail
  go_ret
  exact ⟨rfl, rfl⟩

set_option maxRecDepth 100000 in
set_option maxHeartbeats 2000000 in
theorem kindOf_typeWithQualifiers (a : Addr) (w : World) : Calls Tryz.prog 23 #[.iface 91 (.pointer (some a))] w fun e w' => e = .returned (.string ⟨#[84, 121, 112, 101, 87, 105, 116, 104, 81, 117, 97, 108, 105, 102, 105, 101, 114, 115]⟩) ∧ w = w' := by
  have tName := fun W => (show (Instr.typeAssert (.iface 91 (.pointer (some a))) 38 45 true).run Tryz.prog W = .ok (.tuple #[.pointer none, .bool false]) W from by kernel_rfl)
  have tBuiltinType := fun W => (show (Instr.typeAssert (.iface 91 (.pointer (some a))) 38 53 true).run Tryz.prog W = .ok (.tuple #[.pointer none, .bool false]) W from by kernel_rfl)
  have tOperator := fun W => (show (Instr.typeAssert (.iface 91 (.pointer (some a))) 38 55 true).run Tryz.prog W = .ok (.tuple #[.pointer none, .bool false]) W from by kernel_rfl)
  have tConstructor := fun W => (show (Instr.typeAssert (.iface 91 (.pointer (some a))) 38 59 true).run Tryz.prog W = .ok (.tuple #[.pointer none, .bool false]) W from by kernel_rfl)
  have tDestructor := fun W => (show (Instr.typeAssert (.iface 91 (.pointer (some a))) 38 63 true).run Tryz.prog W = .ok (.tuple #[.pointer none, .bool false]) W from by kernel_rfl)
  have tQualified := fun W => (show (Instr.typeAssert (.iface 91 (.pointer (some a))) 38 66 true).run Tryz.prog W = .ok (.tuple #[.pointer none, .bool false]) W from by kernel_rfl)
  have tTemplate := fun W => (show (Instr.typeAssert (.iface 91 (.pointer (some a))) 38 69 true).run Tryz.prog W = .ok (.tuple #[.pointer none, .bool false]) W from by kernel_rfl)
  have tTyped := fun W => (show (Instr.typeAssert (.iface 91 (.pointer (some a))) 38 74 true).run Tryz.prog W = .ok (.tuple #[.pointer none, .bool false]) W from by kernel_rfl)
  have tFunctionType := fun W => (show (Instr.typeAssert (.iface 91 (.pointer (some a))) 38 77 true).run Tryz.prog W = .ok (.tuple #[.pointer none, .bool false]) W from by kernel_rfl)
  have tPointerType := fun W => (show (Instr.typeAssert (.iface 91 (.pointer (some a))) 38 80 true).run Tryz.prog W = .ok (.tuple #[.pointer none, .bool false]) W from by kernel_rfl)
  have tReferenceType := fun W => (show (Instr.typeAssert (.iface 91 (.pointer (some a))) 38 83 true).run Tryz.prog W = .ok (.tuple #[.pointer none, .bool false]) W from by kernel_rfl)
  have tRvalueReferenceType := fun W => (show (Instr.typeAssert (.iface 91 (.pointer (some a))) 38 85 true).run Tryz.prog W = .ok (.tuple #[.pointer none, .bool false]) W from by kernel_rfl)
  have tComplexType := fun W => (show (Instr.typeAssert (.iface 91 (.pointer (some a))) 38 87 true).run Tryz.prog W = .ok (.tuple #[.pointer none, .bool false]) W from by kernel_rfl)
  have tImaginaryType := fun W => (show (Instr.typeAssert (.iface 91 (.pointer (some a))) 38 89 true).run Tryz.prog W = .ok (.tuple #[.pointer none, .bool false]) W from by kernel_rfl)
  have tTypeWithQualifiers := fun W => (show (Instr.typeAssert (.iface 91 (.pointer (some a))) 38 91 true).run Tryz.prog W = .ok (.tuple #[.pointer (some a), .bool true]) W from by kernel_rfl)
  have hnil := fun W => nil_no 91 a W
  go_enter Tryz.func23, Tryz.ntmps23
  go_wp2_with fail
  go_ret
  exact ⟨rfl, rfl⟩

set_option maxRecDepth 100000 in
set_option maxHeartbeats 2000000 in
theorem kindOf_methodWithQualifiers (a : Addr) (w : World) : Calls Tryz.prog 23 #[.iface 100 (.pointer (some a))] w fun e w' => e = .returned (.string ⟨#[77, 101, 116, 104, 111, 100, 87, 105, 116, 104, 81, 117, 97, 108, 105, 102, 105, 101, 114, 115]⟩) ∧ w = w' := by
  have tName := fun W => (show (Instr.typeAssert (.iface 100 (.pointer (some a))) 38 45 true).run Tryz.prog W = .ok (.tuple #[.pointer none, .bool false]) W from by kernel_rfl)
  have tBuiltinType := fun W => (show (Instr.typeAssert (.iface 100 (.pointer (some a))) 38 53 true).run Tryz.prog W = .ok (.tuple #[.pointer none, .bool false]) W from by kernel_rfl)
  have tOperator := fun W => (show (Instr.typeAssert (.iface 100 (.pointer (some a))) 38 55 true).run Tryz.prog W = .ok (.tuple #[.pointer none, .bool false]) W from by kernel_rfl)
  have tConstructor := fun W => (show (Instr.typeAssert (.iface 100 (.pointer (some a))) 38 59 true).run Tryz.prog W = .ok (.tuple #[.pointer none, .bool false]) W from by kernel_rfl)
  have tDestructor := fun W => (show (Instr.typeAssert (.iface 100 (.pointer (some a))) 38 63 true).run Tryz.prog W = .ok (.tuple #[.pointer none, .bool false]) W from by kernel_rfl)
  have tQualified := fun W => (show (Instr.typeAssert (.iface 100 (.pointer (some a))) 38 66 true).run Tryz.prog W = .ok (.tuple #[.pointer none, .bool false]) W from by kernel_rfl)
  have tTemplate := fun W => (show (Instr.typeAssert (.iface 100 (.pointer (some a))) 38 69 true).run Tryz.prog W = .ok (.tuple #[.pointer none, .bool false]) W from by kernel_rfl)
  have tTyped := fun W => (show (Instr.typeAssert (.iface 100 (.pointer (some a))) 38 74 true).run Tryz.prog W = .ok (.tuple #[.pointer none, .bool false]) W from by kernel_rfl)
  have tFunctionType := fun W => (show (Instr.typeAssert (.iface 100 (.pointer (some a))) 38 77 true).run Tryz.prog W = .ok (.tuple #[.pointer none, .bool false]) W from by kernel_rfl)
  have tPointerType := fun W => (show (Instr.typeAssert (.iface 100 (.pointer (some a))) 38 80 true).run Tryz.prog W = .ok (.tuple #[.pointer none, .bool false]) W from by kernel_rfl)
  have tReferenceType := fun W => (show (Instr.typeAssert (.iface 100 (.pointer (some a))) 38 83 true).run Tryz.prog W = .ok (.tuple #[.pointer none, .bool false]) W from by kernel_rfl)
  have tRvalueReferenceType := fun W => (show (Instr.typeAssert (.iface 100 (.pointer (some a))) 38 85 true).run Tryz.prog W = .ok (.tuple #[.pointer none, .bool false]) W from by kernel_rfl)
  have tComplexType := fun W => (show (Instr.typeAssert (.iface 100 (.pointer (some a))) 38 87 true).run Tryz.prog W = .ok (.tuple #[.pointer none, .bool false]) W from by kernel_rfl)
  have tImaginaryType := fun W => (show (Instr.typeAssert (.iface 100 (.pointer (some a))) 38 89 true).run Tryz.prog W = .ok (.tuple #[.pointer none, .bool false]) W from by kernel_rfl)
  have tTypeWithQualifiers := fun W => (show (Instr.typeAssert (.iface 100 (.pointer (some a))) 38 91 true).run Tryz.prog W = .ok (.tuple #[.pointer none, .bool false]) W from by kernel_rfl)
  have tQualifiers := fun W => (show (Instr.typeAssert (.iface 100 (.pointer (some a))) 38 94 true).run Tryz.prog W = .ok (.tuple #[.pointer none, .bool false]) W from by kernel_rfl)
  have tQualifier := fun W => (show (Instr.typeAssert (.iface 100 (.pointer (some a))) 38 97 true).run Tryz.prog W = .ok (.tuple #[.pointer none, .bool false]) W from by kernel_rfl)
  have tMethodWithQualifiers := fun W => (show (Instr.typeAssert (.iface 100 (.pointer (some a))) 38 100 true).run Tryz.prog W = .ok (.tuple #[.pointer (some a), .bool true]) W from by kernel_rfl)
  have hnil := fun W => nil_no 100 a W
  go_enter Tryz.func23, Tryz.ntmps23
  go_wp2_with fail
  go_ret
  exact ⟨rfl, rfl⟩

set_option maxRecDepth 100000 in
set_option maxHeartbeats 2000000 in
theorem kindOfMore_arrayType (a : Addr) (w : World) : Calls Tryz.prog 44 #[.iface 108 (.pointer (some a))] w fun e w' => e = .returned (.string ⟨#[65, 114, 114, 97, 121, 84, 121, 112, 101]⟩) ∧ w = w' := by
  have tArrayType := fun W => (show (Instr.typeAssert (.iface 108 (.pointer (some a))) 38 108 true).run Tryz.prog W = .ok (.tuple #[.pointer (some a), .bool true]) W from by kernel_rfl)
  go_enter Tryz.func44, Tryz.ntmps44
  go_wp2_with fail
  go_ret
  exact ⟨rfl, rfl⟩

set_option maxRecDepth 100000 in
set_option maxHeartbeats 2000000 in
theorem kindOf_arrayType (a : Addr) (w : World) : Calls Tryz.prog 23 #[.iface 108 (.pointer (some a))] w fun e w' => e = .returned (.string ⟨#[65, 114, 114, 97, 121, 84, 121, 112, 101]⟩) ∧ w = w' := by
  have tName := fun W => (show (Instr.typeAssert (.iface 108 (.pointer (some a))) 38 45 true).run Tryz.prog W = .ok (.tuple #[.pointer none, .bool false]) W from by kernel_rfl)
  have tBuiltinType := fun W => (show (Instr.typeAssert (.iface 108 (.pointer (some a))) 38 53 true).run Tryz.prog W = .ok (.tuple #[.pointer none, .bool false]) W from by kernel_rfl)
  have tOperator := fun W => (show (Instr.typeAssert (.iface 108 (.pointer (some a))) 38 55 true).run Tryz.prog W = .ok (.tuple #[.pointer none, .bool false]) W from by kernel_rfl)
  have tConstructor := fun W => (show (Instr.typeAssert (.iface 108 (.pointer (some a))) 38 59 true).run Tryz.prog W = .ok (.tuple #[.pointer none, .bool false]) W from by kernel_rfl)
  have tDestructor := fun W => (show (Instr.typeAssert (.iface 108 (.pointer (some a))) 38 63 true).run Tryz.prog W = .ok (.tuple #[.pointer none, .bool false]) W from by kernel_rfl)
  have tQualified := fun W => (show (Instr.typeAssert (.iface 108 (.pointer (some a))) 38 66 true).run Tryz.prog W = .ok (.tuple #[.pointer none, .bool false]) W from by kernel_rfl)
  have tTemplate := fun W => (show (Instr.typeAssert (.iface 108 (.pointer (some a))) 38 69 true).run Tryz.prog W = .ok (.tuple #[.pointer none, .bool false]) W from by kernel_rfl)
  have tTyped := fun W => (show (Instr.typeAssert (.iface 108 (.pointer (some a))) 38 74 true).run Tryz.prog W = .ok (.tuple #[.pointer none, .bool false]) W from by kernel_rfl)
  have tFunctionType := fun W => (show (Instr.typeAssert (.iface 108 (.pointer (some a))) 38 77 true).run Tryz.prog W = .ok (.tuple #[.pointer none, .bool false]) W from by kernel_rfl)
  have tPointerType := fun W => (show (Instr.typeAssert (.iface 108 (.pointer (some a))) 38 80 true).run Tryz.prog W = .ok (.tuple #[.pointer none, .bool false]) W from by kernel_rfl)
  have tReferenceType := fun W => (show (Instr.typeAssert (.iface 108 (.pointer (some a))) 38 83 true).run Tryz.prog W = .ok (.tuple #[.pointer none, .bool false]) W from by kernel_rfl)
  have tRvalueReferenceType := fun W => (show (Instr.typeAssert (.iface 108 (.pointer (some a))) 38 85 true).run Tryz.prog W = .ok (.tuple #[.pointer none, .bool false]) W from by kernel_rfl)
  have tComplexType := fun W => (show (Instr.typeAssert (.iface 108 (.pointer (some a))) 38 87 true).run Tryz.prog W = .ok (.tuple #[.pointer none, .bool false]) W from by kernel_rfl)
  have tImaginaryType := fun W => (show (Instr.typeAssert (.iface 108 (.pointer (some a))) 38 89 true).run Tryz.prog W = .ok (.tuple #[.pointer none, .bool false]) W from by kernel_rfl)
  have tTypeWithQualifiers := fun W => (show (Instr.typeAssert (.iface 108 (.pointer (some a))) 38 91 true).run Tryz.prog W = .ok (.tuple #[.pointer none, .bool false]) W from by kernel_rfl)
  have tQualifiers := fun W => (show (Instr.typeAssert (.iface 108 (.pointer (some a))) 38 94 true).run Tryz.prog W = .ok (.tuple #[.pointer none, .bool false]) W from by kernel_rfl)
  have tQualifier := fun W => (show (Instr.typeAssert (.iface 108 (.pointer (some a))) 38 97 true).run Tryz.prog W = .ok (.tuple #[.pointer none, .bool false]) W from by kernel_rfl)
  have tMethodWithQualifiers := fun W => (show (Instr.typeAssert (.iface 108 (.pointer (some a))) 38 100 true).run Tryz.prog W = .ok (.tuple #[.pointer none, .bool false]) W from by kernel_rfl)
  have hnil := fun W => nil_no 108 a W
  have HM := Lib.hid (kindOfMore_arrayType a w)
  go_enter Tryz.func23, Tryz.ntmps23
  go_wp2_with fail
  refine (HM.out).mono ?_
  rintro e w1 ⟨rfl, rfl⟩
  go_wp2_with fail
  go_ret
  exact ⟨rfl, rfl⟩

set_option maxRecDepth 100000 in
set_option maxHeartbeats 2000000 in
theorem kindOfMore_vectorType (a : Addr) (w : World) : Calls Tryz.prog 44 #[.iface 111 (.pointer (some a))] w fun e w' => e = .returned (.string ⟨#[86, 101, 99, 116, 111, 114, 84, 121, 112, 101]⟩) ∧ w = w' := by
  have tArrayType := fun W => (show (Instr.typeAssert (.iface 111 (.pointer (some a))) 38 108 true).run Tryz.prog W = .ok (.tuple #[.pointer none, .bool false]) W from by kernel_rfl)
  have tVectorType := fun W => (show (Instr.typeAssert (.iface 111 (.pointer (some a))) 38 111 true).run Tryz.prog W = .ok (.tuple #[.pointer (some a), .bool true]) W from by kernel_rfl)
  go_enter Tryz.func44, Tryz.ntmps44
  go_wp2_with fail
  go_ret
  exact ⟨rfl, rfl⟩

set_option maxRecDepth 100000 in
set_option maxHeartbeats 2000000 in
theorem kindOf_vectorType (a : Addr) (w : World) : Calls Tryz.prog 23 #[.iface 111 (.pointer (some a))] w fun e w' => e = .returned (.string ⟨#[86, 101, 99, 116, 111, 114, 84, 121, 112, 101]⟩) ∧ w = w' := by
  have tName := fun W => (show (Instr.typeAssert (.iface 111 (.pointer (some a))) 38 45 true).run Tryz.prog W = .ok (.tuple #[.pointer none, .bool false]) W from by kernel_rfl)
  have tBuiltinType := fun W => (show (Instr.typeAssert (.iface 111 (.pointer (some a))) 38 53 true).run Tryz.prog W = .ok (.tuple #[.pointer none, .bool false]) W from by kernel_rfl)
  have tOperator := fun W => (show (Instr.typeAssert (.iface 111 (.pointer (some a))) 38 55 true).run Tryz.prog W = .ok (.tuple #[.pointer none, .bool false]) W from by kernel_rfl)
  have tConstructor := fun W => (show (Instr.typeAssert (.iface 111 (.pointer (some a))) 38 59 true).run Tryz.prog W = .ok (.tuple #[.pointer none, .bool false]) W from by kernel_rfl)
  have tDestructor := fun W => (show (Instr.typeAssert (.iface 111 (.pointer (some a))) 38 63 true).run Tryz.prog W = .ok (.tuple #[.pointer none, .bool false]) W from by kernel_rfl)
  have tQualified := fun W => (show (Instr.typeAssert (.iface 111 (.pointer (some a))) 38 66 true).run Tryz.prog W = .ok (.tuple #[.pointer none, .bool false]) W from by kernel_rfl)
  have tTemplate := fun W => (show (Instr.typeAssert (.iface 111 (.pointer (some a))) 38 69 true).run Tryz.prog W = .ok (.tuple #[.pointer none, .bool false]) W from by kernel_rfl)
  have tTyped := fun W => (show (Instr.typeAssert (.iface 111 (.pointer (some a))) 38 74 true).run Tryz.prog W = .ok (.tuple #[.pointer none, .bool false]) W from by kernel_rfl)
  have tFunctionType := fun W => (show (Instr.typeAssert (.iface 111 (.pointer (some a))) 38 77 true).run Tryz.prog W = .ok (.tuple #[.pointer none, .bool false]) W from by kernel_rfl)
  have tPointerType := fun W => (show (Instr.typeAssert (.iface 111 (.pointer (some a))) 38 80 true).run Tryz.prog W = .ok (.tuple #[.pointer none, .bool false]) W from by kernel_rfl)
  have tReferenceType := fun W => (show (Instr.typeAssert (.iface 111 (.pointer (some a))) 38 83 true).run Tryz.prog W = .ok (.tuple #[.pointer none, .bool false]) W from by kernel_rfl)
  have tRvalueReferenceType := fun W => (show (Instr.typeAssert (.iface 111 (.pointer (some a))) 38 85 true).run Tryz.prog W = .ok (.tuple #[.pointer none, .bool false]) W from by kernel_rfl)
  have tComplexType := fun W => (show (Instr.typeAssert (.iface 111 (.pointer (some a))) 38 87 true).run Tryz.prog W = .ok (.tuple #[.pointer none, .bool false]) W from by kernel_rfl)
  have tImaginaryType := fun W => (show (Instr.typeAssert (.iface 111 (.pointer (some a))) 38 89 true).run Tryz.prog W = .ok (.tuple #[.pointer none, .bool false]) W from by kernel_rfl)
  have tTypeWithQualifiers := fun W => (show (Instr.typeAssert (.iface 111 (.pointer (some a))) 38 91 true).run Tryz.prog W = .ok (.tuple #[.pointer none, .bool false]) W from by kernel_rfl)
  have tQualifiers := fun W => (show (Instr.typeAssert (.iface 111 (.pointer (some a))) 38 94 true).run Tryz.prog W = .ok (.tuple #[.pointer none, .bool false]) W from by kernel_rfl)
  have tQualifier := fun W => (show (Instr.typeAssert (.iface 111 (.pointer (some a))) 38 97 true).run Tryz.prog W = .ok (.tuple #[.pointer none, .bool false]) W from by kernel_rfl)
  have tMethodWithQualifiers := fun W => (show (Instr.typeAssert (.iface 111 (.pointer (some a))) 38 100 true).run Tryz.prog W = .ok (.tuple #[.pointer none, .bool false]) W from by kernel_rfl)
  have hnil := fun W => nil_no 111 a W
  have HM := Lib.hid (kindOfMore_vectorType a w)
  go_enter Tryz.func23, Tryz.ntmps23
  go_wp2_with fail
  refine (HM.out).mono ?_
  rintro e w1 ⟨rfl, rfl⟩
  go_wp2_with fail
  go_ret
  exact ⟨rfl, rfl⟩

set_option maxRecDepth 100000 in
set_option maxHeartbeats 2000000 in
theorem kindOfMore_ptrMem (a : Addr) (w : World) : Calls Tryz.prog 44 #[.iface 114 (.pointer (some a))] w fun e w' => e = .returned (.string ⟨#[80, 116, 114, 77, 101, 109]⟩) ∧ w = w' := by
  have tArrayType := fun W => (show (Instr.typeAssert (.iface 114 (.pointer (some a))) 38 108 true).run Tryz.prog W = .ok (.tuple #[.pointer none, .bool false]) W from by kernel_rfl)
  have tVectorType := fun W => (show (Instr.typeAssert (.iface 114 (.pointer (some a))) 38 111 true).run Tryz.prog W = .ok (.tuple #[.pointer none, .bool false]) W from by kernel_rfl)
  have tPtrMem := fun W => (show (Instr.typeAssert (.iface 114 (.pointer (some a))) 38 114 true).run Tryz.prog W = .ok (.tuple #[.pointer (some a), .bool true]) W from by kernel_rfl)
  go_enter Tryz.func44, Tryz.ntmps44
  go_wp2_with fail
  go_ret
  exact ⟨rfl, rfl⟩

set_option maxRecDepth 100000 in
set_option maxHeartbeats 2000000 in
theorem kindOf_ptrMem (a : Addr) (w : World) : Calls Tryz.prog 23 #[.iface 114 (.pointer (some a))] w fun e w' => e = .returned (.string ⟨#[80, 116, 114, 77, 101, 109]⟩) ∧ w = w' := by
  have tName := fun W => (show (Instr.typeAssert (.iface 114 (.pointer (some a))) 38 45 true).run Tryz.prog W = .ok (.tuple #[.pointer none, .bool false]) W from by kernel_rfl)
  have tBuiltinType := fun W => (show (Instr.typeAssert (.iface 114 (.pointer (some a))) 38 53 true).run Tryz.prog W = .ok (.tuple #[.pointer none, .bool false]) W from by kernel_rfl)
  have tOperator := fun W => (show (Instr.typeAssert (.iface 114 (.pointer (some a))) 38 55 true).run Tryz.prog W = .ok (.tuple #[.pointer none, .bool false]) W from by kernel_rfl)
  have tConstructor := fun W => (show (Instr.typeAssert (.iface 114 (.pointer (some a))) 38 59 true).run Tryz.prog W = .ok (.tuple #[.pointer none, .bool false]) W from by kernel_rfl)
  have tDestructor := fun W => (show (Instr.typeAssert (.iface 114 (.pointer (some a))) 38 63 true).run Tryz.prog W = .ok (.tuple #[.pointer none, .bool false]) W from by kernel_rfl)
  have tQualified := fun W => (show (Instr.typeAssert (.iface 114 (.pointer (some a))) 38 66 true).run Tryz.prog W = .ok (.tuple #[.pointer none, .bool false]) W from by kernel_rfl)
  have tTemplate := fun W => (show (Instr.typeAssert (.iface 114 (.pointer (some a))) 38 69 true).run Tryz.prog W = .ok (.tuple #[.pointer none, .bool false]) W from by kernel_rfl)
  have tTyped := fun W => (show (Instr.typeAssert (.iface 114 (.pointer (some a))) 38 74 true).run Tryz.prog W = .ok (.tuple #[.pointer none, .bool false]) W from by kernel_rfl)
  have tFunctionType := fun W => (show (Instr.typeAssert (.iface 114 (.pointer (some a))) 38 77 true).run Tryz.prog W = .ok (.tuple #[.pointer none, .bool false]) W from by kernel_rfl)
  have tPointerType := fun W => (show (Instr.typeAssert (.iface 114 (.pointer (some a))) 38 80 true).run Tryz.prog W = .ok (.tuple #[.pointer none, .bool false]) W from by kernel_rfl)
  have tReferenceType := fun W => (show (Instr.typeAssert (.iface 114 (.pointer (some a))) 38 83 true).run Tryz.prog W = .ok (.tuple #[.pointer none, .bool false]) W from by kernel_rfl)
  have tRvalueReferenceType := fun W => (show (Instr.typeAssert (.iface 114 (.pointer (some a))) 38 85 true).run Tryz.prog W = .ok (.tuple #[.pointer none, .bool false]) W from by kernel_rfl)
  have tComplexType := fun W => (show (Instr.typeAssert (.iface 114 (.pointer (some a))) 38 87 true).run Tryz.prog W = .ok (.tuple #[.pointer none, .bool false]) W from by kernel_rfl)
  have tImaginaryType := fun W => (show (Instr.typeAssert (.iface 114 (.pointer (some a))) 38 89 true).run Tryz.prog W = .ok (.tuple #[.pointer none, .bool false]) W from by kernel_rfl)
  have tTypeWithQualifiers := fun W => (show (Instr.typeAssert (.iface 114 (.pointer (some a))) 38 91 true).run Tryz.prog W = .ok (.tuple #[.pointer none, .bool false]) W from by kernel_rfl)
  have tQualifiers := fun W => (show (Instr.typeAssert (.iface 114 (.pointer (some a))) 38 94 true).run Tryz.prog W = .ok (.tuple #[.pointer none, .bool false]) W from by kernel_rfl)
  have tQualifier := fun W => (show (Instr.typeAssert (.iface 114 (.pointer (some a))) 38 97 true).run Tryz.prog W = .ok (.tuple #[.pointer none, .bool false]) W from by kernel_rfl)
  have tMethodWithQualifiers := fun W => (show (Instr.typeAssert (.iface 114 (.pointer (some a))) 38 100 true).run Tryz.prog W = .ok (.tuple #[.pointer none, .bool false]) W from by kernel_rfl)
  have hnil := fun W => nil_no 114 a W
  have HM := Lib.hid (kindOfMore_ptrMem a w)
  go_enter Tryz.func23, Tryz.ntmps23
  go_wp2_with fail
  refine (HM.out).mono ?_
  rintro e w1 ⟨rfl, rfl⟩
  go_wp2_with fail
  go_ret
  exact ⟨rfl, rfl⟩

set_option maxRecDepth 100000 in
set_option maxHeartbeats 2000000 in
theorem kindOfMore_vendorQualifier (a : Addr) (w : World) : Calls Tryz.prog 44 #[.iface 117 (.pointer (some a))] w fun e w' => e = .returned (.string ⟨#[86, 101, 110, 100, 111, 114, 81, 117, 97, 108, 105, 102, 105, 101, 114]⟩) ∧ w = w' := by
  have tArrayType := fun W => (show (Instr.typeAssert (.iface 117 (.pointer (some a))) 38 108 true).run Tryz.prog W = .ok (.tuple #[.pointer none, .bool false]) W from by kernel_rfl)
  have tVectorType := fun W => (show (Instr.typeAssert (.iface 117 (.pointer (some a))) 38 111 true).run Tryz.prog W = .ok (.tuple #[.pointer none, .bool false]) W from by kernel_rfl)
  have tPtrMem := fun W => (show (Instr.typeAssert (.iface 117 (.pointer (some a))) 38 114 true).run Tryz.prog W = .ok (.tuple #[.pointer none, .bool false]) W from by kernel_rfl)
  have tVendorQualifier := fun W => (show (Instr.typeAssert (.iface 117 (.pointer (some a))) 38 117 true).run Tryz.prog W = .ok (.tuple #[.pointer (some a), .bool true]) W from by kernel_rfl)
  go_enter Tryz.func44, Tryz.ntmps44
  go_wp2_with fail
  go_ret
  exact ⟨rfl, rfl⟩

set_option maxRecDepth 100000 in
set_option maxHeartbeats 2000000 in
theorem kindOf_vendorQualifier (a : Addr) (w : World) : Calls Tryz.prog 23 #[.iface 117 (.pointer (some a))] w fun e w' => e = .returned (.string ⟨#[86, 101, 110, 100, 111, 114, 81, 117, 97, 108, 105, 102, 105, 101, 114]⟩) ∧ w = w' := by
  have tName := fun W => (show (Instr.typeAssert (.iface 117 (.pointer (some a))) 38 45 true).run Tryz.prog W = .ok (.tuple #[.pointer none, .bool false]) W from by kernel_rfl)
  have tBuiltinType := fun W => (show (Instr.typeAssert (.iface 117 (.pointer (some a))) 38 53 true).run Tryz.prog W = .ok (.tuple #[.pointer none, .bool false]) W from by kernel_rfl)
  have tOperator := fun W => (show (Instr.typeAssert (.iface 117 (.pointer (some a))) 38 55 true).run Tryz.prog W = .ok (.tuple #[.pointer none, .bool false]) W from by kernel_rfl)
  have tConstructor := fun W => (show (Instr.typeAssert (.iface 117 (.pointer (some a))) 38 59 true).run Tryz.prog W = .ok (.tuple #[.pointer none, .bool false]) W from by kernel_rfl)
  have tDestructor := fun W => (show (Instr.typeAssert (.iface 117 (.pointer (some a))) 38 63 true).run Tryz.prog W = .ok (.tuple #[.pointer none, .bool false]) W from by kernel_rfl)
  have tQualified := fun W => (show (Instr.typeAssert (.iface 117 (.pointer (some a))) 38 66 true).run Tryz.prog W = .ok (.tuple #[.pointer none, .bool false]) W from by kernel_rfl)
  have tTemplate := fun W => (show (Instr.typeAssert (.iface 117 (.pointer (some a))) 38 69 true).run Tryz.prog W = .ok (.tuple #[.pointer none, .bool false]) W from by kernel_rfl)
  have tTyped := fun W => (show (Instr.typeAssert (.iface 117 (.pointer (some a))) 38 74 true).run Tryz.prog W = .ok (.tuple #[.pointer none, .bool false]) W from by kernel_rfl)
  have tFunctionType := fun W => (show (Instr.typeAssert (.iface 117 (.pointer (some a))) 38 77 true).run Tryz.prog W = .ok (.tuple #[.pointer none, .bool false]) W from by kernel_rfl)
  have tPointerType := fun W => (show (Instr.typeAssert (.iface 117 (.pointer (some a))) 38 80 true).run Tryz.prog W = .ok (.tuple #[.pointer none, .bool false]) W from by kernel_rfl)
  have tReferenceType := fun W => (show (Instr.typeAssert (.iface 117 (.pointer (some a))) 38 83 true).run Tryz.prog W = .ok (.tuple #[.pointer none, .bool false]) W from by kernel_rfl)
  have tRvalueReferenceType := fun W => (show (Instr.typeAssert (.iface 117 (.pointer (some a))) 38 85 true).run Tryz.prog W = .ok (.tuple #[.pointer none, .bool false]) W from by kernel_rfl)
  have tComplexType := fun W => (show (Instr.typeAssert (.iface 117 (.pointer (some a))) 38 87 true).run Tryz.prog W = .ok (.tuple #[.pointer none, .bool false]) W from by kernel_rfl)
  have tImaginaryType := fun W => (show (Instr.typeAssert (.iface 117 (.pointer (some a))) 38 89 true).run Tryz.prog W = .ok (.tuple #[.pointer none, .bool false]) W from by kernel_rfl)
  have tTypeWithQualifiers := fun W => (show (Instr.typeAssert (.iface 117 (.pointer (some a))) 38 91 true).run Tryz.prog W = .ok (.tuple #[.pointer none, .bool false]) W from by kernel_rfl)
  have tQualifiers := fun W => (show (Instr.typeAssert (.iface 117 (.pointer (some a))) 38 94 true).run Tryz.prog W = .ok (.tuple #[.pointer none, .bool false]) W from by kernel_rfl)
  have tQualifier := fun W => (show (Instr.typeAssert (.iface 117 (.pointer (some a))) 38 97 true).run Tryz.prog W = .ok (.tuple #[.pointer none, .bool false]) W from by kernel_rfl)
  have tMethodWithQualifiers := fun W => (show (Instr.typeAssert (.iface 117 (.pointer (some a))) 38 100 true).run Tryz.prog W = .ok (.tuple #[.pointer none, .bool false]) W from by kernel_rfl)
  have hnil := fun W => nil_no 117 a W
  have HM := Lib.hid (kindOfMore_vendorQualifier a w)
  go_enter Tryz.func23, Tryz.ntmps23
  go_wp2_with fail
  refine (HM.out).mono ?_
  rintro e w1 ⟨rfl, rfl⟩
  go_wp2_with fail
  go_ret
  exact ⟨rfl, rfl⟩

set_option maxRecDepth 100000 in
set_option maxHeartbeats 2000000 in
theorem kindOfMore_literal (a : Addr) (w : World) : Calls Tryz.prog 44 #[.iface 126 (.pointer (some a))] w fun e w' => e = .returned (.string ⟨#[76, 105, 116, 101, 114, 97, 108]⟩) ∧ w = w' := by
  have tArrayType := fun W => (show (Instr.typeAssert (.iface 126 (.pointer (some a))) 38 108 true).run Tryz.prog W = .ok (.tuple #[.pointer none, .bool false]) W from by kernel_rfl)
  have tVectorType := fun W => (show (Instr.typeAssert (.iface 126 (.pointer (some a))) 38 111 true).run Tryz.prog W = .ok (.tuple #[.pointer none, .bool false]) W from by kernel_rfl)
  have tPtrMem := fun W => (show (Instr.typeAssert (.iface 126 (.pointer (some a))) 38 114 true).run Tryz.prog W = .ok (.tuple #[.pointer none, .bool false]) W from by kernel_rfl)
  have tVendorQualifier := fun W => (show (Instr.typeAssert (.iface 126 (.pointer (some a))) 38 117 true).run Tryz.prog W = .ok (.tuple #[.pointer none, .bool false]) W from by kernel_rfl)
  have tSpecial := fun W => (show (Instr.typeAssert (.iface 126 (.pointer (some a))) 38 120 true).run Tryz.prog W = .ok (.tuple #[.pointer none, .bool false]) W from by kernel_rfl)
  have tSpecial2 := fun W => (show (Instr.typeAssert (.iface 126 (.pointer (some a))) 38 123 true).run Tryz.prog W = .ok (.tuple #[.pointer none, .bool false]) W from by kernel_rfl)
  have tLiteral := fun W => (show (Instr.typeAssert (.iface 126 (.pointer (some a))) 38 126 true).run Tryz.prog W = .ok (.tuple #[.pointer (some a), .bool true]) W from by kernel_rfl)
  go_enter Tryz.func44, Tryz.ntmps44
  go_wp2_with fail
  go_ret
  exact ⟨rfl, rfl⟩

set_option maxRecDepth 100000 in
set_option maxHeartbeats 2000000 in
theorem kindOf_literal (a : Addr) (w : World) : Calls Tryz.prog 23 #[.iface 126 (.pointer (some a))] w fun e w' => e = .returned (.string ⟨#[76, 105, 116, 101, 114, 97, 108]⟩) ∧ w = w' := by
  have tName := fun W => (show (Instr.typeAssert (.iface 126 (.pointer (some a))) 38 45 true).run Tryz.prog W = .ok (.tuple #[.pointer none, .bool false]) W from by kernel_rfl)
  have tBuiltinType := fun W => (show (Instr.typeAssert (.iface 126 (.pointer (some a))) 38 53 true).run Tryz.prog W = .ok (.tuple #[.pointer none, .bool false]) W from by kernel_rfl)
  have tOperator := fun W => (show (Instr.typeAssert (.iface 126 (.pointer (some a))) 38 55 true).run Tryz.prog W = .ok (.tuple #[.pointer none, .bool false]) W from by kernel_rfl)
  have tConstructor := fun W => (show (Instr.typeAssert (.iface 126 (.pointer (some a))) 38 59 true).run Tryz.prog W = .ok (.tuple #[.pointer none, .bool false]) W from by kernel_rfl)
  have tDestructor := fun W => (show (Instr.typeAssert (.iface 126 (.pointer (some a))) 38 63 true).run Tryz.prog W = .ok (.tuple #[.pointer none, .bool false]) W from by kernel_rfl)
  have tQualified := fun W => (show (Instr.typeAssert (.iface 126 (.pointer (some a))) 38 66 true).run Tryz.prog W = .ok (.tuple #[.pointer none, .bool false]) W from by kernel_rfl)
  have tTemplate := fun W => (show (Instr.typeAssert (.iface 126 (.pointer (some a))) 38 69 true).run Tryz.prog W = .ok (.tuple #[.pointer none, .bool false]) W from by kernel_rfl)
  have tTyped := fun W => (show (Instr.typeAssert (.iface 126 (.pointer (some a))) 38 74 true).run Tryz.prog W = .ok (.tuple #[.pointer none, .bool false]) W from by kernel_rfl)
  have tFunctionType := fun W => (show (Instr.typeAssert (.iface 126 (.pointer (some a))) 38 77 true).run Tryz.prog W = .ok (.tuple #[.pointer none, .bool false]) W from by kernel_rfl)
  have tPointerType := fun W => (show (Instr.typeAssert (.iface 126 (.pointer (some a))) 38 80 true).run Tryz.prog W = .ok (.tuple #[.pointer none, .bool false]) W from by kernel_rfl)
  have tReferenceType := fun W => (show (Instr.typeAssert (.iface 126 (.pointer (some a))) 38 83 true).run Tryz.prog W = .ok (.tuple #[.pointer none, .bool false]) W from by kernel_rfl)
  have tRvalueReferenceType := fun W => (show (Instr.typeAssert (.iface 126 (.pointer (some a))) 38 85 true).run Tryz.prog W = .ok (.tuple #[.pointer none, .bool false]) W from by kernel_rfl)
  have tComplexType := fun W => (show (Instr.typeAssert (.iface 126 (.pointer (some a))) 38 87 true).run Tryz.prog W = .ok (.tuple #[.pointer none, .bool false]) W from by kernel_rfl)
  have tImaginaryType := fun W => (show (Instr.typeAssert (.iface 126 (.pointer (some a))) 38 89 true).run Tryz.prog W = .ok (.tuple #[.pointer none, .bool false]) W from by kernel_rfl)
  have tTypeWithQualifiers := fun W => (show (Instr.typeAssert (.iface 126 (.pointer (some a))) 38 91 true).run Tryz.prog W = .ok (.tuple #[.pointer none, .bool false]) W from by kernel_rfl)
  have tQualifiers := fun W => (show (Instr.typeAssert (.iface 126 (.pointer (some a))) 38 94 true).run Tryz.prog W = .ok (.tuple #[.pointer none, .bool false]) W from by kernel_rfl)
  have tQualifier := fun W => (show (Instr.typeAssert (.iface 126 (.pointer (some a))) 38 97 true).run Tryz.prog W = .ok (.tuple #[.pointer none, .bool false]) W from by kernel_rfl)
  have tMethodWithQualifiers := fun W => (show (Instr.typeAssert (.iface 126 (.pointer (some a))) 38 100 true).run Tryz.prog W = .ok (.tuple #[.pointer none, .bool false]) W from by kernel_rfl)
  have hnil := fun W => nil_no 126 a W
  have HM := Lib.hid (kindOfMore_literal a w)
  go_enter Tryz.func23, Tryz.ntmps23
  go_wp2_with fail
  refine (HM.out).mono ?_
  rintro e w1 ⟨rfl, rfl⟩
  go_wp2_with fail
  go_ret
  exact ⟨rfl, rfl⟩

set_option maxRecDepth 100000 in
set_option maxHeartbeats 2000000 in
theorem kindOfMore_argumentPack (a : Addr) (w : World) : Calls Tryz.prog 44 #[.iface 129 (.pointer (some a))] w fun e w' => e = .returned (.string ⟨#[65, 114, 103, 117, 109, 101, 110, 116, 80, 97, 99, 107]⟩) ∧ w = w' := by
  have tArrayType := fun W => (show (Instr.typeAssert (.iface 129 (.pointer (some a))) 38 108 true).run Tryz.prog W = .ok (.tuple #[.pointer none, .bool false]) W from by kernel_rfl)
  have tVectorType := fun W => (show (Instr.typeAssert (.iface 129 (.pointer (some a))) 38 111 true).run Tryz.prog W = .ok (.tuple #[.pointer none, .bool false]) W from by kernel_rfl)
  have tPtrMem := fun W => (show (Instr.typeAssert (.iface 129 (.pointer (some a))) 38 114 true).run Tryz.prog W = .ok (.tuple #[.pointer none, .bool false]) W from by kernel_rfl)
  have tVendorQualifier := fun W => (show (Instr.typeAssert (.iface 129 (.pointer (some a))) 38 117 true).run Tryz.prog W = .ok (.tuple #[.pointer none, .bool false]) W from by kernel_rfl)
  have tSpecial := fun W => (show (Instr.typeAssert (.iface 129 (.pointer (some a))) 38 120 true).run Tryz.prog W = .ok (.tuple #[.pointer none, .bool false]) W from by kernel_rfl)
  have tSpecial2 := fun W => (show (Instr.typeAssert (.iface 129 (.pointer (some a))) 38 123 true).run Tryz.prog W = .ok (.tuple #[.pointer none, .bool false]) W from by kernel_rfl)
  have tLiteral := fun W => (show (Instr.typeAssert (.iface 129 (.pointer (some a))) 38 126 true).run Tryz.prog W = .ok (.tuple #[.pointer none, .bool false]) W from by kernel_rfl)
  have tArgumentPack := fun W => (show (Instr.typeAssert (.iface 129 (.pointer (some a))) 38 129 true).run Tryz.prog W = .ok (.tuple #[.pointer (some a), .bool true]) W from by kernel_rfl)
  go_enter Tryz.func44, Tryz.ntmps44
  go_wp2_with fail
  go_ret
  exact ⟨rfl, rfl⟩

set_option maxRecDepth 100000 in
set_option maxHeartbeats 2000000 in
theorem kindOf_argumentPack (a : Addr) (w : World) : Calls Tryz.prog 23 #[.iface 129 (.pointer (some a))] w fun e w' => e = .returned (.string ⟨#[65, 114, 103, 117, 109, 101, 110, 116, 80, 97, 99, 107]⟩) ∧ w = w' := by
  have tName := fun W => (show (Instr.typeAssert (.iface 129 (.pointer (some a))) 38 45 true).run Tryz.prog W = .ok (.tuple #[.pointer none, .bool false]) W from by kernel_rfl)
  have tBuiltinType := fun W => (show (Instr.typeAssert (.iface 129 (.pointer (some a))) 38 53 true).run Tryz.prog W = .ok (.tuple #[.pointer none, .bool false]) W from by kernel_rfl)
  have tOperator := fun W => (show (Instr.typeAssert (.iface 129 (.pointer (some a))) 38 55 true).run Tryz.prog W = .ok (.tuple #[.pointer none, .bool false]) W from by kernel_rfl)
  have tConstructor := fun W => (show (Instr.typeAssert (.iface 129 (.pointer (some a))) 38 59 true).run Tryz.prog W = .ok (.tuple #[.pointer none, .bool false]) W from by kernel_rfl)
  have tDestructor := fun W => (show (Instr.typeAssert (.iface 129 (.pointer (some a))) 38 63 true).run Tryz.prog W = .ok (.tuple #[.pointer none, .bool false]) W from by kernel_rfl)
  have tQualified := fun W => (show (Instr.typeAssert (.iface 129 (.pointer (some a))) 38 66 true).run Tryz.prog W = .ok (.tuple #[.pointer none, .bool false]) W from by kernel_rfl)
  have tTemplate := fun W => (show (Instr.typeAssert (.iface 129 (.pointer (some a))) 38 69 true).run Tryz.prog W = .ok (.tuple #[.pointer none, .bool false]) W from by kernel_rfl)
  have tTyped := fun W => (show (Instr.typeAssert (.iface 129 (.pointer (some a))) 38 74 true).run Tryz.prog W = .ok (.tuple #[.pointer none, .bool false]) W from by kernel_rfl)
  have tFunctionType := fun W => (show (Instr.typeAssert (.iface 129 (.pointer (some a))) 38 77 true).run Tryz.prog W = .ok (.tuple #[.pointer none, .bool false]) W from by kernel_rfl)
  have tPointerType := fun W => (show (Instr.typeAssert (.iface 129 (.pointer (some a))) 38 80 true).run Tryz.prog W = .ok (.tuple #[.pointer none, .bool false]) W from by kernel_rfl)
  have tReferenceType := fun W => (show (Instr.typeAssert (.iface 129 (.pointer (some a))) 38 83 true).run Tryz.prog W = .ok (.tuple #[.pointer none, .bool false]) W from by kernel_rfl)
  have tRvalueReferenceType := fun W => (show (Instr.typeAssert (.iface 129 (.pointer (some a))) 38 85 true).run Tryz.prog W = .ok (.tuple #[.pointer none, .bool false]) W from by kernel_rfl)
  have tComplexType := fun W => (show (Instr.typeAssert (.iface 129 (.pointer (some a))) 38 87 true).run Tryz.prog W = .ok (.tuple #[.pointer none, .bool false]) W from by kernel_rfl)
  have tImaginaryType := fun W => (show (Instr.typeAssert (.iface 129 (.pointer (some a))) 38 89 true).run Tryz.prog W = .ok (.tuple #[.pointer none, .bool false]) W from by kernel_rfl)
  have tTypeWithQualifiers := fun W => (show (Instr.typeAssert (.iface 129 (.pointer (some a))) 38 91 true).run Tryz.prog W = .ok (.tuple #[.pointer none, .bool false]) W from by kernel_rfl)
  have tQualifiers := fun W => (show (Instr.typeAssert (.iface 129 (.pointer (some a))) 38 94 true).run Tryz.prog W = .ok (.tuple #[.pointer none, .bool false]) W from by kernel_rfl)
  have tQualifier := fun W => (show (Instr.typeAssert (.iface 129 (.pointer (some a))) 38 97 true).run Tryz.prog W = .ok (.tuple #[.pointer none, .bool false]) W from by kernel_rfl)
  have tMethodWithQualifiers := fun W => (show (Instr.typeAssert (.iface 129 (.pointer (some a))) 38 100 true).run Tryz.prog W = .ok (.tuple #[.pointer none, .bool false]) W from by kernel_rfl)
  have hnil := fun W => nil_no 129 a W
  have HM := Lib.hid (kindOfMore_argumentPack a w)
  go_enter Tryz.func23, Tryz.ntmps23
  go_wp2_with fail
  refine (HM.out).mono ?_
  rintro e w1 ⟨rfl, rfl⟩
  go_wp2_with fail
  go_ret
  exact ⟨rfl, rfl⟩

set_option maxRecDepth 100000 in
set_option maxHeartbeats 2000000 in
theorem kindOfMore_closure (a : Addr) (w : World) : Calls Tryz.prog 44 #[.iface 136 (.pointer (some a))] w fun e w' => e = .returned (.string ⟨#[67, 108, 111, 115, 117, 114, 101]⟩) ∧ w = w' := by
  have tArrayType := fun W => (show (Instr.typeAssert (.iface 136 (.pointer (some a))) 38 108 true).run Tryz.prog W = .ok (.tuple #[.pointer none, .bool false]) W from by kernel_rfl)
  have tVectorType := fun W => (show (Instr.typeAssert (.iface 136 (.pointer (some a))) 38 111 true).run Tryz.prog W = .ok (.tuple #[.pointer none, .bool false]) W from by kernel_rfl)
  have tPtrMem := fun W => (show (Instr.typeAssert (.iface 136 (.pointer (some a))) 38 114 true).run Tryz.prog W = .ok (.tuple #[.pointer none, .bool false]) W from by kernel_rfl)
  have tVendorQualifier := fun W => (show (Instr.typeAssert (.iface 136 (.pointer (some a))) 38 117 true).run Tryz.prog W = .ok (.tuple #[.pointer none, .bool false]) W from by kernel_rfl)
  have tSpecial := fun W => (show (Instr.typeAssert (.iface 136 (.pointer (some a))) 38 120 true).run Tryz.prog W = .ok (.tuple #[.pointer none, .bool false]) W from by kernel_rfl)
  have tSpecial2 := fun W => (show (Instr.typeAssert (.iface 136 (.pointer (some a))) 38 123 true).run Tryz.prog W = .ok (.tuple #[.pointer none, .bool false]) W from by kernel_rfl)
  have tLiteral := fun W => (show (Instr.typeAssert (.iface 136 (.pointer (some a))) 38 126 true).run Tryz.prog W = .ok (.tuple #[.pointer none, .bool false]) W from by kernel_rfl)
  have tArgumentPack := fun W => (show (Instr.typeAssert (.iface 136 (.pointer (some a))) 38 129 true).run Tryz.prog W = .ok (.tuple #[.pointer none, .bool false]) W from by kernel_rfl)
  have tPackExpansion := fun W => (show (Instr.typeAssert (.iface 136 (.pointer (some a))) 38 133 true).run Tryz.prog W = .ok (.tuple #[.pointer none, .bool false]) W from by kernel_rfl)
  have tClosure := fun W => (show (Instr.typeAssert (.iface 136 (.pointer (some a))) 38 136 true).run Tryz.prog W = .ok (.tuple #[.pointer (some a), .bool true]) W from by kernel_rfl)
  go_enter Tryz.func44, Tryz.ntmps44
  go_wp2_with fail
  go_ret
  exact ⟨rfl, rfl⟩

set_option maxRecDepth 100000 in
set_option maxHeartbeats 2000000 in
theorem kindOf_closure (a : Addr) (w : World) : Calls Tryz.prog 23 #[.iface 136 (.pointer (some a))] w fun e w' => e = .returned (.string ⟨#[67, 108, 111, 115, 117, 114, 101]⟩) ∧ w = w' := by
  have tName := fun W => (show (Instr.typeAssert (.iface 136 (.pointer (some a))) 38 45 true).run Tryz.prog W = .ok (.tuple #[.pointer none, .bool false]) W from by kernel_rfl)
  have tBuiltinType := fun W => (show (Instr.typeAssert (.iface 136 (.pointer (some a))) 38 53 true).run Tryz.prog W = .ok (.tuple #[.pointer none, .bool false]) W from by kernel_rfl)
  have tOperator := fun W => (show (Instr.typeAssert (.iface 136 (.pointer (some a))) 38 55 true).run Tryz.prog W = .ok (.tuple #[.pointer none, .bool false]) W from by kernel_rfl)
  have tConstructor := fun W => (show (Instr.typeAssert (.iface 136 (.pointer (some a))) 38 59 true).run Tryz.prog W = .ok (.tuple #[.pointer none, .bool false]) W from by kernel_rfl)
  have tDestructor := fun W => (show (Instr.typeAssert (.iface 136 (.pointer (some a))) 38 63 true).run Tryz.prog W = .ok (.tuple #[.pointer none, .bool false]) W from by kernel_rfl)
  have tQualified := fun W => (show (Instr.typeAssert (.iface 136 (.pointer (some a))) 38 66 true).run Tryz.prog W = .ok (.tuple #[.pointer none, .bool false]) W from by kernel_rfl)
  have tTemplate := fun W => (show (Instr.typeAssert (.iface 136 (.pointer (some a))) 38 69 true).run Tryz.prog W = .ok (.tuple #[.pointer none, .bool false]) W from by kernel_rfl)
  have tTyped := fun W => (show (Instr.typeAssert (.iface 136 (.pointer (some a))) 38 74 true).run Tryz.prog W = .ok (.tuple #[.pointer none, .bool false]) W from by kernel_rfl)
  have tFunctionType := fun W => (show (Instr.typeAssert (.iface 136 (.pointer (some a))) 38 77 true).run Tryz.prog W = .ok (.tuple #[.pointer none, .bool false]) W from by kernel_rfl)
  have tPointerType := fun W => (show (Instr.typeAssert (.iface 136 (.pointer (some a))) 38 80 true).run Tryz.prog W = .ok (.tuple #[.pointer none, .bool false]) W from by kernel_rfl)
  have tReferenceType := fun W => (show (Instr.typeAssert (.iface 136 (.pointer (some a))) 38 83 true).run Tryz.prog W = .ok (.tuple #[.pointer none, .bool false]) W from by kernel_rfl)
  have tRvalueReferenceType := fun W => (show (Instr.typeAssert (.iface 136 (.pointer (some a))) 38 85 true).run Tryz.prog W = .ok (.tuple #[.pointer none, .bool false]) W from by kernel_rfl)
  have tComplexType := fun W => (show (Instr.typeAssert (.iface 136 (.pointer (some a))) 38 87 true).run Tryz.prog W = .ok (.tuple #[.pointer none, .bool false]) W from by kernel_rfl)
  have tImaginaryType := fun W => (show (Instr.typeAssert (.iface 136 (.pointer (some a))) 38 89 true).run Tryz.prog W = .ok (.tuple #[.pointer none, .bool false]) W from by kernel_rfl)
  have tTypeWithQualifiers := fun W => (show (Instr.typeAssert (.iface 136 (.pointer (some a))) 38 91 true).run Tryz.prog W = .ok (.tuple #[.pointer none, .bool false]) W from by kernel_rfl)
  have tQualifiers := fun W => (show (Instr.typeAssert (.iface 136 (.pointer (some a))) 38 94 true).run Tryz.prog W = .ok (.tuple #[.pointer none, .bool false]) W from by kernel_rfl)
  have tQualifier := fun W => (show (Instr.typeAssert (.iface 136 (.pointer (some a))) 38 97 true).run Tryz.prog W = .ok (.tuple #[.pointer none, .bool false]) W from by kernel_rfl)
  have tMethodWithQualifiers := fun W => (show (Instr.typeAssert (.iface 136 (.pointer (some a))) 38 100 true).run Tryz.prog W = .ok (.tuple #[.pointer none, .bool false]) W from by kernel_rfl)
  have hnil := fun W => nil_no 136 a W
  have HM := Lib.hid (kindOfMore_closure a w)
  go_enter Tryz.func23, Tryz.ntmps23
  go_wp2_with fail
  refine (HM.out).mono ?_
  rintro e w1 ⟨rfl, rfl⟩
  go_wp2_with fail
  go_ret
  exact ⟨rfl, rfl⟩

set_option maxRecDepth 100000 in
set_option maxHeartbeats 2000000 in
theorem kindOfMore_unnamedType (a : Addr) (w : World) : Calls Tryz.prog 44 #[.iface 139 (.pointer (some a))] w fun e w' => e = .returned (.string ⟨#[85, 110, 110, 97, 109, 101, 100, 84, 121, 112, 101]⟩) ∧ w = w' := by
  have tArrayType := fun W => (show (Instr.typeAssert (.iface 139 (.pointer (some a))) 38 108 true).run Tryz.prog W = .ok (.tuple #[.pointer none, .bool false]) W from by kernel_rfl)
  have tVectorType := fun W => (show (Instr.typeAssert (.iface 139 (.pointer (some a))) 38 111 true).run Tryz.prog W = .ok (.tuple #[.pointer none, .bool false]) W from by kernel_rfl)
  have tPtrMem := fun W => (show (Instr.typeAssert (.iface 139 (.pointer (some a))) 38 114 true).run Tryz.prog W = .ok (.tuple #[.pointer none, .bool false]) W from by kernel_rfl)
  have tVendorQualifier := fun W => (show (Instr.typeAssert (.iface 139 (.pointer (some a))) 38 117 true).run Tryz.prog W = .ok (.tuple #[.pointer none, .bool false]) W from by kernel_rfl)
  have tSpecial := fun W => (show (Instr.typeAssert (.iface 139 (.pointer (some a))) 38 120 true).run Tryz.prog W = .ok (.tuple #[.pointer none, .bool false]) W from by kernel_rfl)
  have tSpecial2 := fun W => (show (Instr.typeAssert (.iface 139 (.pointer (some a))) 38 123 true).run Tryz.prog W = .ok (.tuple #[.pointer none, .bool false]) W from by kernel_rfl)
  have tLiteral := fun W => (show (Instr.typeAssert (.iface 139 (.pointer (some a))) 38 126 true).run Tryz.prog W = .ok (.tuple #[.pointer none, .bool false]) W from by kernel_rfl)
  have tArgumentPack := fun W => (show (Instr.typeAssert (.iface 139 (.pointer (some a))) 38 129 true).run Tryz.prog W = .ok (.tuple #[.pointer none, .bool false]) W from by kernel_rfl)
  have tPackExpansion := fun W => (show (Instr.typeAssert (.iface 139 (.pointer (some a))) 38 133 true).run Tryz.prog W = .ok (.tuple #[.pointer none, .bool false]) W from by kernel_rfl)
  have tClosure := fun W => (show (Instr.typeAssert (.iface 139 (.pointer (some a))) 38 136 true).run Tryz.prog W = .ok (.tuple #[.pointer none, .bool false]) W from by kernel_rfl)
  have tUnnamedType := fun W => (show (Instr.typeAssert (.iface 139 (.pointer (some a))) 38 139 true).run Tryz.prog W = .ok (.tuple #[.pointer (some a), .bool true]) W from by kernel_rfl)
  go_enter Tryz.func44, Tryz.ntmps44
  go_wp2_with fail
  go_ret
  exact ⟨rfl, rfl⟩

set_option maxRecDepth 100000 in
set_option maxHeartbeats 2000000 in
theorem kindOf_unnamedType (a : Addr) (w : World) : Calls Tryz.prog 23 #[.iface 139 (.pointer (some a))] w fun e w' => e = .returned (.string ⟨#[85, 110, 110, 97, 109, 101, 100, 84, 121, 112, 101]⟩) ∧ w = w' := by
  have tName := fun W => (show (Instr.typeAssert (.iface 139 (.pointer (some a))) 38 45 true).run Tryz.prog W = .ok (.tuple #[.pointer none, .bool false]) W from by kernel_rfl)
  have tBuiltinType := fun W => (show (Instr.typeAssert (.iface 139 (.pointer (some a))) 38 53 true).run Tryz.prog W = .ok (.tuple #[.pointer none, .bool false]) W from by kernel_rfl)
  have tOperator := fun W => (show (Instr.typeAssert (.iface 139 (.pointer (some a))) 38 55 true).run Tryz.prog W = .ok (.tuple #[.pointer none, .bool false]) W from by kernel_rfl)
  have tConstructor := fun W => (show (Instr.typeAssert (.iface 139 (.pointer (some a))) 38 59 true).run Tryz.prog W = .ok (.tuple #[.pointer none, .bool false]) W from by kernel_rfl)
  have tDestructor := fun W => (show (Instr.typeAssert (.iface 139 (.pointer (some a))) 38 63 true).run Tryz.prog W = .ok (.tuple #[.pointer none, .bool false]) W from by kernel_rfl)
  have tQualified := fun W => (show (Instr.typeAssert (.iface 139 (.pointer (some a))) 38 66 true).run Tryz.prog W = .ok (.tuple #[.pointer none, .bool false]) W from by kernel_rfl)
  have tTemplate := fun W => (show (Instr.typeAssert (.iface 139 (.pointer (some a))) 38 69 true).run Tryz.prog W = .ok (.tuple #[.pointer none, .bool false]) W from by kernel_rfl)
  have tTyped := fun W => (show (Instr.typeAssert (.iface 139 (.pointer (some a))) 38 74 true).run Tryz.prog W = .ok (.tuple #[.pointer none, .bool false]) W from by kernel_rfl)
  have tFunctionType := fun W => (show (Instr.typeAssert (.iface 139 (.pointer (some a))) 38 77 true).run Tryz.prog W = .ok (.tuple #[.pointer none, .bool false]) W from by kernel_rfl)
  have tPointerType := fun W => (show (Instr.typeAssert (.iface 139 (.pointer (some a))) 38 80 true).run Tryz.prog W = .ok (.tuple #[.pointer none, .bool false]) W from by kernel_rfl)
  have tReferenceType := fun W => (show (Instr.typeAssert (.iface 139 (.pointer (some a))) 38 83 true).run Tryz.prog W = .ok (.tuple #[.pointer none, .bool false]) W from by kernel_rfl)
  have tRvalueReferenceType := fun W => (show (Instr.typeAssert (.iface 139 (.pointer (some a))) 38 85 true).run Tryz.prog W = .ok (.tuple #[.pointer none, .bool false]) W from by kernel_rfl)
  have tComplexType := fun W => (show (Instr.typeAssert (.iface 139 (.pointer (some a))) 38 87 true).run Tryz.prog W = .ok (.tuple #[.pointer none, .bool false]) W from by kernel_rfl)
  have tImaginaryType := fun W => (show (Instr.typeAssert (.iface 139 (.pointer (some a))) 38 89 true).run Tryz.prog W = .ok (.tuple #[.pointer none, .bool false]) W from by kernel_rfl)
  have tTypeWithQualifiers := fun W => (show (Instr.typeAssert (.iface 139 (.pointer (some a))) 38 91 true).run Tryz.prog W = .ok (.tuple #[.pointer none, .bool false]) W from by kernel_rfl)
  have tQualifiers := fun W => (show (Instr.typeAssert (.iface 139 (.pointer (some a))) 38 94 true).run Tryz.prog W = .ok (.tuple #[.pointer none, .bool false]) W from by kernel_rfl)
  have tQualifier := fun W => (show (Instr.typeAssert (.iface 139 (.pointer (some a))) 38 97 true).run Tryz.prog W = .ok (.tuple #[.pointer none, .bool false]) W from by kernel_rfl)
  have tMethodWithQualifiers := fun W => (show (Instr.typeAssert (.iface 139 (.pointer (some a))) 38 100 true).run Tryz.prog W = .ok (.tuple #[.pointer none, .bool false]) W from by kernel_rfl)
  have hnil := fun W => nil_no 139 a W
  have HM := Lib.hid (kindOfMore_unnamedType a w)
  go_enter Tryz.func23, Tryz.ntmps23
  go_wp2_with fail
  refine (HM.out).mono ?_
  rintro e w1 ⟨rfl, rfl⟩
  go_wp2_with fail
  go_ret
  exact ⟨rfl, rfl⟩

set_option maxRecDepth 100000 in
set_option maxHeartbeats 2000000 in
theorem kindOfMore_taggedName (a : Addr) (w : World) : Calls Tryz.prog 44 #[.iface 142 (.pointer (some a))] w fun e w' => e = .returned (.string ⟨#[84, 97, 103, 103, 101, 100, 78, 97, 109, 101]⟩) ∧ w = w' := by
  have tArrayType := fun W => (show (Instr.typeAssert (.iface 142 (.pointer (some a))) 38 108 true).run Tryz.prog W = .ok (.tuple #[.pointer none, .bool false]) W from by kernel_rfl)
  have tVectorType := fun W => (show (Instr.typeAssert (.iface 142 (.pointer (some a))) 38 111 true).run Tryz.prog W = .ok (.tuple #[.pointer none, .bool false]) W from by kernel_rfl)
  have tPtrMem := fun W => (show (Instr.typeAssert (.iface 142 (.pointer (some a))) 38 114 true).run Tryz.prog W = .ok (.tuple #[.pointer none, .bool false]) W from by kernel_rfl)
  have tVendorQualifier := fun W => (show (Instr.typeAssert (.iface 142 (.pointer (some a))) 38 117 true).run Tryz.prog W = .ok (.tuple #[.pointer none, .bool false]) W from by kernel_rfl)
  have tSpecial := fun W => (show (Instr.typeAssert (.iface 142 (.pointer (some a))) 38 120 true).run Tryz.prog W = .ok (.tuple #[.pointer none, .bool false]) W from by kernel_rfl)
  have tSpecial2 := fun W => (show (Instr.typeAssert (.iface 142 (.pointer (some a))) 38 123 true).run Tryz.prog W = .ok (.tuple #[.pointer none, .bool false]) W from by kernel_rfl)
  have tLiteral := fun W => (show (Instr.typeAssert (.iface 142 (.pointer (some a))) 38 126 true).run Tryz.prog W = .ok (.tuple #[.pointer none, .bool false]) W from by kernel_rfl)
  have tArgumentPack := fun W => (show (Instr.typeAssert (.iface 142 (.pointer (some a))) 38 129 true).run Tryz.prog W = .ok (.tuple #[.pointer none, .bool false]) W from by kernel_rfl)
  have tPackExpansion := fun W => (show (Instr.typeAssert (.iface 142 (.pointer (some a))) 38 133 true).run Tryz.prog W = .ok (.tuple #[.pointer none, .bool false]) W from by kernel_rfl)
  have tClosure := fun W => (show (Instr.typeAssert (.iface 142 (.pointer (some a))) 38 136 true).run Tryz.prog W = .ok (.tuple #[.pointer none, .bool false]) W from by kernel_rfl)
  have tUnnamedType := fun W => (show (Instr.typeAssert (.iface 142 (.pointer (some a))) 38 139 true).run Tryz.prog W = .ok (.tuple #[.pointer none, .bool false]) W from by kernel_rfl)
  have tTaggedName := fun W => (show (Instr.typeAssert (.iface 142 (.pointer (some a))) 38 142 true).run Tryz.prog W = .ok (.tuple #[.pointer (some a), .bool true]) W from by kernel_rfl)
  go_enter Tryz.func44, Tryz.ntmps44
  go_wp2_with fail
  go_ret
  exact ⟨rfl, rfl⟩

set_option maxRecDepth 100000 in
set_option maxHeartbeats 2000000 in
theorem kindOf_taggedName (a : Addr) (w : World) : Calls Tryz.prog 23 #[.iface 142 (.pointer (some a))] w fun e w' => e = .returned (.string ⟨#[84, 97, 103, 103, 101, 100, 78, 97, 109, 101]⟩) ∧ w = w' := by
  have tName := fun W => (show (Instr.typeAssert (.iface 142 (.pointer (some a))) 38 45 true).run Tryz.prog W = .ok (.tuple #[.pointer none, .bool false]) W from by kernel_rfl)
  have tBuiltinType := fun W => (show (Instr.typeAssert (.iface 142 (.pointer (some a))) 38 53 true).run Tryz.prog W = .ok (.tuple #[.pointer none, .bool false]) W from by kernel_rfl)
  have tOperator := fun W => (show (Instr.typeAssert (.iface 142 (.pointer (some a))) 38 55 true).run Tryz.prog W = .ok (.tuple #[.pointer none, .bool false]) W from by kernel_rfl)
  have tConstructor := fun W => (show (Instr.typeAssert (.iface 142 (.pointer (some a))) 38 59 true).run Tryz.prog W = .ok (.tuple #[.pointer none, .bool false]) W from by kernel_rfl)
  have tDestructor := fun W => (show (Instr.typeAssert (.iface 142 (.pointer (some a))) 38 63 true).run Tryz.prog W = .ok (.tuple #[.pointer none, .bool false]) W from by kernel_rfl)
  have tQualified := fun W => (show (Instr.typeAssert (.iface 142 (.pointer (some a))) 38 66 true).run Tryz.prog W = .ok (.tuple #[.pointer none, .bool false]) W from by kernel_rfl)
  have tTemplate := fun W => (show (Instr.typeAssert (.iface 142 (.pointer (some a))) 38 69 true).run Tryz.prog W = .ok (.tuple #[.pointer none, .bool false]) W from by kernel_rfl)
  have tTyped := fun W => (show (Instr.typeAssert (.iface 142 (.pointer (some a))) 38 74 true).run Tryz.prog W = .ok (.tuple #[.pointer none, .bool false]) W from by kernel_rfl)
  have tFunctionType := fun W => (show (Instr.typeAssert (.iface 142 (.pointer (some a))) 38 77 true).run Tryz.prog W = .ok (.tuple #[.pointer none, .bool false]) W from by kernel_rfl)
  have tPointerType := fun W => (show (Instr.typeAssert (.iface 142 (.pointer (some a))) 38 80 true).run Tryz.prog W = .ok (.tuple #[.pointer none, .bool false]) W from by kernel_rfl)
  have tReferenceType := fun W => (show (Instr.typeAssert (.iface 142 (.pointer (some a))) 38 83 true).run Tryz.prog W = .ok (.tuple #[.pointer none, .bool false]) W from by kernel_rfl)
  have tRvalueReferenceType := fun W => (show (Instr.typeAssert (.iface 142 (.pointer (some a))) 38 85 true).run Tryz.prog W = .ok (.tuple #[.pointer none, .bool false]) W from by kernel_rfl)
  have tComplexType := fun W => (show (Instr.typeAssert (.iface 142 (.pointer (some a))) 38 87 true).run Tryz.prog W = .ok (.tuple #[.pointer none, .bool false]) W from by kernel_rfl)
  have tImaginaryType := fun W => (show (Instr.typeAssert (.iface 142 (.pointer (some a))) 38 89 true).run Tryz.prog W = .ok (.tuple #[.pointer none, .bool false]) W from by kernel_rfl)
  have tTypeWithQualifiers := fun W => (show (Instr.typeAssert (.iface 142 (.pointer (some a))) 38 91 true).run Tryz.prog W = .ok (.tuple #[.pointer none, .bool false]) W from by kernel_rfl)
  have tQualifiers := fun W => (show (Instr.typeAssert (.iface 142 (.pointer (some a))) 38 94 true).run Tryz.prog W = .ok (.tuple #[.pointer none, .bool false]) W from by kernel_rfl)
  have tQualifier := fun W => (show (Instr.typeAssert (.iface 142 (.pointer (some a))) 38 97 true).run Tryz.prog W = .ok (.tuple #[.pointer none, .bool false]) W from by kernel_rfl)
  have tMethodWithQualifiers := fun W => (show (Instr.typeAssert (.iface 142 (.pointer (some a))) 38 100 true).run Tryz.prog W = .ok (.tuple #[.pointer none, .bool false]) W from by kernel_rfl)
  have hnil := fun W => nil_no 142 a W
  have HM := Lib.hid (kindOfMore_taggedName a w)
  go_enter Tryz.func23, Tryz.ntmps23
  go_wp2_with fail
  refine (HM.out).mono ?_
  rintro e w1 ⟨rfl, rfl⟩
  go_wp2_with fail
  go_ret
  exact ⟨rfl, rfl⟩

set_option maxRecDepth 100000 in
set_option maxHeartbeats 2000000 in
theorem kindOfMore_cast (a : Addr) (w : World) : Calls Tryz.prog 44 #[.iface 154 (.pointer (some a))] w fun e w' => e = .returned (.string ⟨#[67, 97, 115, 116]⟩) ∧ w = w' := by
  have tArrayType := fun W => (show (Instr.typeAssert (.iface 154 (.pointer (some a))) 38 108 true).run Tryz.prog W = .ok (.tuple #[.pointer none, .bool false]) W from by kernel_rfl)
  have tVectorType := fun W => (show (Instr.typeAssert (.iface 154 (.pointer (some a))) 38 111 true).run Tryz.prog W = .ok (.tuple #[.pointer none, .bool false]) W from by kernel_rfl)
  have tPtrMem := fun W => (show (Instr.typeAssert (.iface 154 (.pointer (some a))) 38 114 true).run Tryz.prog W = .ok (.tuple #[.pointer none, .bool false]) W from by kernel_rfl)
  have tVendorQualifier := fun W => (show (Instr.typeAssert (.iface 154 (.pointer (some a))) 38 117 true).run Tryz.prog W = .ok (.tuple #[.pointer none, .bool false]) W from by kernel_rfl)
  have tSpecial := fun W => (show (Instr.typeAssert (.iface 154 (.pointer (some a))) 38 120 true).run Tryz.prog W = .ok (.tuple #[.pointer none, .bool false]) W from by kernel_rfl)
  have tSpecial2 := fun W => (show (Instr.typeAssert (.iface 154 (.pointer (some a))) 38 123 true).run Tryz.prog W = .ok (.tuple #[.pointer none, .bool false]) W from by kernel_rfl)
  have tLiteral := fun W => (show (Instr.typeAssert (.iface 154 (.pointer (some a))) 38 126 true).run Tryz.prog W = .ok (.tuple #[.pointer none, .bool false]) W from by kernel_rfl)
  have tArgumentPack := fun W => (show (Instr.typeAssert (.iface 154 (.pointer (some a))) 38 129 true).run Tryz.prog W = .ok (.tuple #[.pointer none, .bool false]) W from by kernel_rfl)
  have tPackExpansion := fun W => (show (Instr.typeAssert (.iface 154 (.pointer (some a))) 38 133 true).run Tryz.prog W = .ok (.tuple #[.pointer none, .bool false]) W from by kernel_rfl)
  have tClosure := fun W => (show (Instr.typeAssert (.iface 154 (.pointer (some a))) 38 136 true).run Tryz.prog W = .ok (.tuple #[.pointer none, .bool false]) W from by kernel_rfl)
  have tUnnamedType := fun W => (show (Instr.typeAssert (.iface 154 (.pointer (some a))) 38 139 true).run Tryz.prog W = .ok (.tuple #[.pointer none, .bool false]) W from by kernel_rfl)
  have tTaggedName := fun W => (show (Instr.typeAssert (.iface 154 (.pointer (some a))) 38 142 true).run Tryz.prog W = .ok (.tuple #[.pointer none, .bool false]) W from by kernel_rfl)
  have tDefaultArg := fun W => (show (Instr.typeAssert (.iface 154 (.pointer (some a))) 38 145 true).run Tryz.prog W = .ok (.tuple #[.pointer none, .bool false]) W from by kernel_rfl)
  have tClone := fun W => (show (Instr.typeAssert (.iface 154 (.pointer (some a))) 38 148 true).run Tryz.prog W = .ok (.tuple #[.pointer none, .bool false]) W from by kernel_rfl)
  have tGlobalCDtor := fun W => (show (Instr.typeAssert (.iface 154 (.pointer (some a))) 38 151 true).run Tryz.prog W = .ok (.tuple #[.pointer none, .bool false]) W from by kernel_rfl)
  have tCast := fun W => (show (Instr.typeAssert (.iface 154 (.pointer (some a))) 38 154 true).run Tryz.prog W = .ok (.tuple #[.pointer (some a), .bool true]) W from by kernel_rfl)
  go_enter Tryz.func44, Tryz.ntmps44
  go_wp2_with fail
  go_ret
  exact ⟨rfl, rfl⟩

set_option maxRecDepth 100000 in
set_option maxHeartbeats 2000000 in
theorem kindOf_cast (a : Addr) (w : World) : Calls Tryz.prog 23 #[.iface 154 (.pointer (some a))] w fun e w' => e = .returned (.string ⟨#[67, 97, 115, 116]⟩) ∧ w = w' := by
  have tName := fun W => (show (Instr.typeAssert (.iface 154 (.pointer (some a))) 38 45 true).run Tryz.prog W = .ok (.tuple #[.pointer none, .bool false]) W from by kernel_rfl)
  have tBuiltinType := fun W => (show (Instr.typeAssert (.iface 154 (.pointer (some a))) 38 53 true).run Tryz.prog W = .ok (.tuple #[.pointer none, .bool false]) W from by kernel_rfl)
  have tOperator := fun W => (show (Instr.typeAssert (.iface 154 (.pointer (some a))) 38 55 true).run Tryz.prog W = .ok (.tuple #[.pointer none, .bool false]) W from by kernel_rfl)
  have tConstructor := fun W => (show (Instr.typeAssert (.iface 154 (.pointer (some a))) 38 59 true).run Tryz.prog W = .ok (.tuple #[.pointer none, .bool false]) W from by kernel_rfl)
  have tDestructor := fun W => (show (Instr.typeAssert (.iface 154 (.pointer (some a))) 38 63 true).run Tryz.prog W = .ok (.tuple #[.pointer none, .bool false]) W from by kernel_rfl)
  have tQualified := fun W => (show (Instr.typeAssert (.iface 154 (.pointer (some a))) 38 66 true).run Tryz.prog W = .ok (.tuple #[.pointer none, .bool false]) W from by kernel_rfl)
  have tTemplate := fun W => (show (Instr.typeAssert (.iface 154 (.pointer (some a))) 38 69 true).run Tryz.prog W = .ok (.tuple #[.pointer none, .bool false]) W from by kernel_rfl)
  have tTyped := fun W => (show (Instr.typeAssert (.iface 154 (.pointer (some a))) 38 74 true).run Tryz.prog W = .ok (.tuple #[.pointer none, .bool false]) W from by kernel_rfl)
  have tFunctionType := fun W => (show (Instr.typeAssert (.iface 154 (.pointer (some a))) 38 77 true).run Tryz.prog W = .ok (.tuple #[.pointer none, .bool false]) W from by kernel_rfl)
  have tPointerType := fun W => (show (Instr.typeAssert (.iface 154 (.pointer (some a))) 38 80 true).run Tryz.prog W = .ok (.tuple #[.pointer none, .bool false]) W from by kernel_rfl)
  have tReferenceType := fun W => (show (Instr.typeAssert (.iface 154 (.pointer (some a))) 38 83 true).run Tryz.prog W = .ok (.tuple #[.pointer none, .bool false]) W from by kernel_rfl)
  have tRvalueReferenceType := fun W => (show (Instr.typeAssert (.iface 154 (.pointer (some a))) 38 85 true).run Tryz.prog W = .ok (.tuple #[.pointer none, .bool false]) W from by kernel_rfl)
  have tComplexType := fun W => (show (Instr.typeAssert (.iface 154 (.pointer (some a))) 38 87 true).run Tryz.prog W = .ok (.tuple #[.pointer none, .bool false]) W from by kernel_rfl)
  have tImaginaryType := fun W => (show (Instr.typeAssert (.iface 154 (.pointer (some a))) 38 89 true).run Tryz.prog W = .ok (.tuple #[.pointer none, .bool false]) W from by kernel_rfl)
  have tTypeWithQualifiers := fun W => (show (Instr.typeAssert (.iface 154 (.pointer (some a))) 38 91 true).run Tryz.prog W = .ok (.tuple #[.pointer none, .bool false]) W from by kernel_rfl)
  have tQualifiers := fun W => (show (Instr.typeAssert (.iface 154 (.pointer (some a))) 38 94 true).run Tryz.prog W = .ok (.tuple #[.pointer none, .bool false]) W from by kernel_rfl)
  have tQualifier := fun W => (show (Instr.typeAssert (.iface 154 (.pointer (some a))) 38 97 true).run Tryz.prog W = .ok (.tuple #[.pointer none, .bool false]) W from by kernel_rfl)
  have tMethodWithQualifiers := fun W => (show (Instr.typeAssert (.iface 154 (.pointer (some a))) 38 100 true).run Tryz.prog W = .ok (.tuple #[.pointer none, .bool false]) W from by kernel_rfl)
  have hnil := fun W => nil_no 154 a W
  have HM := Lib.hid (kindOfMore_cast a w)
  go_enter Tryz.func23, Tryz.ntmps23
  go_wp2_with fail
  refine (HM.out).mono ?_
  rintro e w1 ⟨rfl, rfl⟩
  go_wp2_with fail
  go_ret
  exact ⟨rfl, rfl⟩

set_option maxRecDepth 100000 in
set_option maxHeartbeats 2000000 in
theorem kindOf_qualifiers (a : Addr) (w : World) : Calls Tryz.prog 23 #[.iface 94 (.pointer (some a))] w fun e w' => e = .returned (.string ⟨#[81, 117, 97, 108, 105, 102, 105, 101, 114, 115]⟩) ∧ w = w' := by
  have tName := fun W => (show (Instr.typeAssert (.iface 94 (.pointer (some a))) 38 45 true).run Tryz.prog W = .ok (.tuple #[.pointer none, .bool false]) W from by kernel_rfl)
  have tBuiltinType := fun W => (show (Instr.typeAssert (.iface 94 (.pointer (some a))) 38 53 true).run Tryz.prog W = .ok (.tuple #[.pointer none, .bool false]) W from by kernel_rfl)
  have tOperator := fun W => (show (Instr.typeAssert (.iface 94 (.pointer (some a))) 38 55 true).run Tryz.prog W = .ok (.tuple #[.pointer none, .bool false]) W from by kernel_rfl)
  have tConstructor := fun W => (show (Instr.typeAssert (.iface 94 (.pointer (some a))) 38 59 true).run Tryz.prog W = .ok (.tuple #[.pointer none, .bool false]) W from by kernel_rfl)
  have tDestructor := fun W => (show (Instr.typeAssert (.iface 94 (.pointer (some a))) 38 63 true).run Tryz.prog W = .ok (.tuple #[.pointer none, .bool false]) W from by kernel_rfl)
  have tQualified := fun W => (show (Instr.typeAssert (.iface 94 (.pointer (some a))) 38 66 true).run Tryz.prog W = .ok (.tuple #[.pointer none, .bool false]) W from by kernel_rfl)
  have tTemplate := fun W => (show (Instr.typeAssert (.iface 94 (.pointer (some a))) 38 69 true).run Tryz.prog W = .ok (.tuple #[.pointer none, .bool false]) W from by kernel_rfl)
  have tTyped := fun W => (show (Instr.typeAssert (.iface 94 (.pointer (some a))) 38 74 true).run Tryz.prog W = .ok (.tuple #[.pointer none, .bool false]) W from by kernel_rfl)
  have tFunctionType := fun W => (show (Instr.typeAssert (.iface 94 (.pointer (some a))) 38 77 true).run Tryz.prog W = .ok (.tuple #[.pointer none, .bool false]) W from by kernel_rfl)
  have tPointerType := fun W => (show (Instr.typeAssert (.iface 94 (.pointer (some a))) 38 80 true).run Tryz.prog W = .ok (.tuple #[.pointer none, .bool false]) W from by kernel_rfl)
  have tReferenceType := fun W => (show (Instr.typeAssert (.iface 94 (.pointer (some a))) 38 83 true).run Tryz.prog W = .ok (.tuple #[.pointer none, .bool false]) W from by kernel_rfl)
  have tRvalueReferenceType := fun W => (show (Instr.typeAssert (.iface 94 (.pointer (some a))) 38 85 true).run Tryz.prog W = .ok (.tuple #[.pointer none, .bool false]) W from by kernel_rfl)
  have tComplexType := fun W => (show (Instr.typeAssert (.iface 94 (.pointer (some a))) 38 87 true).run Tryz.prog W = .ok (.tuple #[.pointer none, .bool false]) W from by kernel_rfl)
  have tImaginaryType := fun W => (show (Instr.typeAssert (.iface 94 (.pointer (some a))) 38 89 true).run Tryz.prog W = .ok (.tuple #[.pointer none, .bool false]) W from by kernel_rfl)
  have tTypeWithQualifiers := fun W => (show (Instr.typeAssert (.iface 94 (.pointer (some a))) 38 91 true).run Tryz.prog W = .ok (.tuple #[.pointer none, .bool false]) W from by kernel_rfl)
  have tQualifiers := fun W => (show (Instr.typeAssert (.iface 94 (.pointer (some a))) 38 94 true).run Tryz.prog W = .ok (.tuple #[.pointer (some a), .bool true]) W from by kernel_rfl)
  have hnil := fun W => nil_no 94 a W
  go_enter Tryz.func23, Tryz.ntmps23
  go_wp2_with fail
  go_ret
  exact ⟨rfl, rfl⟩

set_option maxRecDepth 100000 in
set_option maxHeartbeats 2000000 in
theorem kindOf_qualifier (a : Addr) (w : World) : Calls Tryz.prog 23 #[.iface 97 (.pointer (some a))] w fun e w' => e = .returned (.string ⟨#[81, 117, 97, 108, 105, 102, 105, 101, 114]⟩) ∧ w = w' := by
  have tName := fun W => (show (Instr.typeAssert (.iface 97 (.pointer (some a))) 38 45 true).run Tryz.prog W = .ok (.tuple #[.pointer none, .bool false]) W from by kernel_rfl)
  have tBuiltinType := fun W => (show (Instr.typeAssert (.iface 97 (.pointer (some a))) 38 53 true).run Tryz.prog W = .ok (.tuple #[.pointer none, .bool false]) W from by kernel_rfl)
  have tOperator := fun W => (show (Instr.typeAssert (.iface 97 (.pointer (some a))) 38 55 true).run Tryz.prog W = .ok (.tuple #[.pointer none, .bool false]) W from by kernel_rfl)
  have tConstructor := fun W => (show (Instr.typeAssert (.iface 97 (.pointer (some a))) 38 59 true).run Tryz.prog W = .ok (.tuple #[.pointer none, .bool false]) W from by kernel_rfl)
  have tDestructor := fun W => (show (Instr.typeAssert (.iface 97 (.pointer (some a))) 38 63 true).run Tryz.prog W = .ok (.tuple #[.pointer none, .bool false]) W from by kernel_rfl)
  have tQualified := fun W => (show (Instr.typeAssert (.iface 97 (.pointer (some a))) 38 66 true).run Tryz.prog W = .ok (.tuple #[.pointer none, .bool false]) W from by kernel_rfl)
  have tTemplate := fun W => (show (Instr.typeAssert (.iface 97 (.pointer (some a))) 38 69 true).run Tryz.prog W = .ok (.tuple #[.pointer none, .bool false]) W from by kernel_rfl)
  have tTyped := fun W => (show (Instr.typeAssert (.iface 97 (.pointer (some a))) 38 74 true).run Tryz.prog W = .ok (.tuple #[.pointer none, .bool false]) W from by kernel_rfl)
  have tFunctionType := fun W => (show (Instr.typeAssert (.iface 97 (.pointer (some a))) 38 77 true).run Tryz.prog W = .ok (.tuple #[.pointer none, .bool false]) W from by kernel_rfl)
  have tPointerType := fun W => (show (Instr.typeAssert (.iface 97 (.pointer (some a))) 38 80 true).run Tryz.prog W = .ok (.tuple #[.pointer none, .bool false]) W from by kernel_rfl)
  have tReferenceType := fun W => (show (Instr.typeAssert (.iface 97 (.pointer (some a))) 38 83 true).run Tryz.prog W = .ok (.tuple #[.pointer none, .bool false]) W from by kernel_rfl)
  have tRvalueReferenceType := fun W => (show (Instr.typeAssert (.iface 97 (.pointer (some a))) 38 85 true).run Tryz.prog W = .ok (.tuple #[.pointer none, .bool false]) W from by kernel_rfl)
  have tComplexType := fun W => (show (Instr.typeAssert (.iface 97 (.pointer (some a))) 38 87 true).run Tryz.prog W = .ok (.tuple #[.pointer none, .bool false]) W from by kernel_rfl)
  have tImaginaryType := fun W => (show (Instr.typeAssert (.iface 97 (.pointer (some a))) 38 89 true).run Tryz.prog W = .ok (.tuple #[.pointer none, .bool false]) W from by kernel_rfl)
  have tTypeWithQualifiers := fun W => (show (Instr.typeAssert (.iface 97 (.pointer (some a))) 38 91 true).run Tryz.prog W = .ok (.tuple #[.pointer none, .bool false]) W from by kernel_rfl)
  have tQualifiers := fun W => (show (Instr.typeAssert (.iface 97 (.pointer (some a))) 38 94 true).run Tryz.prog W = .ok (.tuple #[.pointer none, .bool false]) W from by kernel_rfl)
  have tQualifier := fun W => (show (Instr.typeAssert (.iface 97 (.pointer (some a))) 38 97 true).run Tryz.prog W = .ok (.tuple #[.pointer (some a), .bool true]) W from by kernel_rfl)
  have hnil := fun W => nil_no 97 a W
  go_enter Tryz.func23, Tryz.ntmps23
  go_wp2_with fail
  go_ret
  exact ⟨rfl, rfl⟩

end Go.Proofs.YtnhccgbkalpcnaaGreatDoor
