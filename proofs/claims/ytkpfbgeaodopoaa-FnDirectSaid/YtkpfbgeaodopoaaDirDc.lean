/-
  FnDirect: the package's DirectChildren, node by node.
-/
import Derived.Test.YtkpfbgeaodopoaaDirMade
namespace Go.Proofs.Ytkpfbgeaodopoaa.fnDirect
open Go.RowKit
set_option linter.unusedSimpArgs false
set_option linter.unusedVariables false

theorem run_assert_hit {P : Program} {T e : TypeId} (hu : P.underlying T = some (.pointer e)) (v : Value) (xT : TypeId) (w : World) : (Instr.typeAssert (.iface T v) xT T true).run P w = .ok (.tuple #[v, .bool true]) w := by
  simp [Instr.typeAssert, run_underlying hu]

theorem run_assert_miss {P : Program} {T U e : TypeId} (hu : P.underlying U = some (.pointer e)) (hz : (P.info? U).map (·.zero) = some (some (.pointer none))) (v : Value) (xT : TypeId) (w : World) (h : ¬ T = U) : (Instr.typeAssert (.iface T v) xT U true).run P w = .ok (.tuple #[.pointer none, .bool false]) w := by
  cases hj : P.info? U with
  | none => rw [hj] at hz; cases hz
  | some j =>
    rw [hj] at hz
    have hz' : j.zero = some (.pointer none) := Option.some.inj hz
    simp [Instr.typeAssert, run_underlying hu, zeroValue, typeInfo, hj, hz', h]

theorem ptr_Apply : Try.prog.underlying 43 = some (.pointer 62) := by kernel_rfl
@[go_sem] theorem hit_Apply (v : Value) (xT : TypeId) (w : World) : (Instr.typeAssert (.iface 43 v) xT 43 true).run Try.prog w = .ok (.tuple #[v, .bool true]) w := run_assert_hit ptr_Apply v xT w
@[go_sem] theorem miss_Apply (T : TypeId) (v : Value) (xT : TypeId) (w : World) (h : ¬ T = 43) : (Instr.typeAssert (.iface T v) xT 43 true).run Try.prog w = .ok (.tuple #[.pointer none, .bool false]) w := run_assert_miss ptr_Apply (by kernel_rfl) v xT w h
theorem ptr_ApplyBrace : Try.prog.underlying 63 = some (.pointer 65) := by kernel_rfl
@[go_sem] theorem hit_ApplyBrace (v : Value) (xT : TypeId) (w : World) : (Instr.typeAssert (.iface 63 v) xT 63 true).run Try.prog w = .ok (.tuple #[v, .bool true]) w := run_assert_hit ptr_ApplyBrace v xT w
@[go_sem] theorem miss_ApplyBrace (T : TypeId) (v : Value) (xT : TypeId) (w : World) (h : ¬ T = 63) : (Instr.typeAssert (.iface T v) xT 63 true).run Try.prog w = .ok (.tuple #[.pointer none, .bool false]) w := run_assert_miss ptr_ApplyBrace (by kernel_rfl) v xT w h
theorem ptr_Array : Try.prog.underlying 66 = some (.pointer 185) := by kernel_rfl
@[go_sem] theorem hit_Array (v : Value) (xT : TypeId) (w : World) : (Instr.typeAssert (.iface 66 v) xT 66 true).run Try.prog w = .ok (.tuple #[v, .bool true]) w := run_assert_hit ptr_Array v xT w
@[go_sem] theorem miss_Array (T : TypeId) (v : Value) (xT : TypeId) (w : World) (h : ¬ T = 66) : (Instr.typeAssert (.iface T v) xT 66 true).run Try.prog w = .ok (.tuple #[.pointer none, .bool false]) w := run_assert_miss ptr_Array (by kernel_rfl) v xT w h
theorem ptr_Assert : Try.prog.underlying 67 = some (.pointer 69) := by kernel_rfl
@[go_sem] theorem hit_Assert (v : Value) (xT : TypeId) (w : World) : (Instr.typeAssert (.iface 67 v) xT 67 true).run Try.prog w = .ok (.tuple #[v, .bool true]) w := run_assert_hit ptr_Assert v xT w
@[go_sem] theorem miss_Assert (T : TypeId) (v : Value) (xT : TypeId) (w : World) (h : ¬ T = 67) : (Instr.typeAssert (.iface T v) xT 67 true).run Try.prog w = .ok (.tuple #[.pointer none, .bool false]) w := run_assert_miss ptr_Assert (by kernel_rfl) v xT w h
theorem ptr_Binary : Try.prog.underlying 70 = some (.pointer 73) := by kernel_rfl
@[go_sem] theorem hit_Binary (v : Value) (xT : TypeId) (w : World) : (Instr.typeAssert (.iface 70 v) xT 70 true).run Try.prog w = .ok (.tuple #[v, .bool true]) w := run_assert_hit ptr_Binary v xT w
@[go_sem] theorem miss_Binary (T : TypeId) (v : Value) (xT : TypeId) (w : World) (h : ¬ T = 70) : (Instr.typeAssert (.iface T v) xT 70 true).run Try.prog w = .ok (.tuple #[.pointer none, .bool false]) w := run_assert_miss ptr_Binary (by kernel_rfl) v xT w h
theorem ptr_Conditional : Try.prog.underlying 74 = some (.pointer 76) := by kernel_rfl
@[go_sem] theorem hit_Conditional (v : Value) (xT : TypeId) (w : World) : (Instr.typeAssert (.iface 74 v) xT 74 true).run Try.prog w = .ok (.tuple #[v, .bool true]) w := run_assert_hit ptr_Conditional v xT w
@[go_sem] theorem miss_Conditional (T : TypeId) (v : Value) (xT : TypeId) (w : World) (h : ¬ T = 74) : (Instr.typeAssert (.iface T v) xT 74 true).run Try.prog w = .ok (.tuple #[.pointer none, .bool false]) w := run_assert_miss ptr_Conditional (by kernel_rfl) v xT w h
theorem ptr_Dollar : Try.prog.underlying 77 = some (.pointer 175) := by kernel_rfl
@[go_sem] theorem hit_Dollar (v : Value) (xT : TypeId) (w : World) : (Instr.typeAssert (.iface 77 v) xT 77 true).run Try.prog w = .ok (.tuple #[v, .bool true]) w := run_assert_hit ptr_Dollar v xT w
@[go_sem] theorem miss_Dollar (T : TypeId) (v : Value) (xT : TypeId) (w : World) (h : ¬ T = 77) : (Instr.typeAssert (.iface T v) xT 77 true).run Try.prog w = .ok (.tuple #[.pointer none, .bool false]) w := run_assert_miss ptr_Dollar (by kernel_rfl) v xT w h
theorem ptr_Error : Try.prog.underlying 78 = some (.pointer 80) := by kernel_rfl
@[go_sem] theorem hit_Error (v : Value) (xT : TypeId) (w : World) : (Instr.typeAssert (.iface 78 v) xT 78 true).run Try.prog w = .ok (.tuple #[v, .bool true]) w := run_assert_hit ptr_Error v xT w
@[go_sem] theorem miss_Error (T : TypeId) (v : Value) (xT : TypeId) (w : World) (h : ¬ T = 78) : (Instr.typeAssert (.iface T v) xT 78 true).run Try.prog w = .ok (.tuple #[.pointer none, .bool false]) w := run_assert_miss ptr_Error (by kernel_rfl) v xT w h
theorem ptr_Function : Try.prog.underlying 81 = some (.pointer 211) := by kernel_rfl
@[go_sem] theorem hit_Function (v : Value) (xT : TypeId) (w : World) : (Instr.typeAssert (.iface 81 v) xT 81 true).run Try.prog w = .ok (.tuple #[v, .bool true]) w := run_assert_hit ptr_Function v xT w
@[go_sem] theorem miss_Function (T : TypeId) (v : Value) (xT : TypeId) (w : World) (h : ¬ T = 81) : (Instr.typeAssert (.iface T v) xT 81 true).run Try.prog w = .ok (.tuple #[.pointer none, .bool false]) w := run_assert_miss ptr_Function (by kernel_rfl) v xT w h
theorem ptr_Import : Try.prog.underlying 82 = some (.pointer 179) := by kernel_rfl
@[go_sem] theorem hit_Import (v : Value) (xT : TypeId) (w : World) : (Instr.typeAssert (.iface 82 v) xT 82 true).run Try.prog w = .ok (.tuple #[v, .bool true]) w := run_assert_hit ptr_Import v xT w
@[go_sem] theorem miss_Import (T : TypeId) (v : Value) (xT : TypeId) (w : World) (h : ¬ T = 82) : (Instr.typeAssert (.iface T v) xT 82 true).run Try.prog w = .ok (.tuple #[.pointer none, .bool false]) w := run_assert_miss ptr_Import (by kernel_rfl) v xT w h
theorem ptr_ImportStr : Try.prog.underlying 83 = some (.pointer 180) := by kernel_rfl
@[go_sem] theorem hit_ImportStr (v : Value) (xT : TypeId) (w : World) : (Instr.typeAssert (.iface 83 v) xT 83 true).run Try.prog w = .ok (.tuple #[v, .bool true]) w := run_assert_hit ptr_ImportStr v xT w
@[go_sem] theorem miss_ImportStr (T : TypeId) (v : Value) (xT : TypeId) (w : World) (h : ¬ T = 83) : (Instr.typeAssert (.iface T v) xT 83 true).run Try.prog w = .ok (.tuple #[.pointer none, .bool false]) w := run_assert_miss ptr_ImportStr (by kernel_rfl) v xT w h
theorem ptr_ImportBin : Try.prog.underlying 84 = some (.pointer 181) := by kernel_rfl
@[go_sem] theorem hit_ImportBin (v : Value) (xT : TypeId) (w : World) : (Instr.typeAssert (.iface 84 v) xT 84 true).run Try.prog w = .ok (.tuple #[v, .bool true]) w := run_assert_hit ptr_ImportBin v xT w
@[go_sem] theorem miss_ImportBin (T : TypeId) (v : Value) (xT : TypeId) (w : World) (h : ¬ T = 84) : (Instr.typeAssert (.iface T v) xT 84 true).run Try.prog w = .ok (.tuple #[.pointer none, .bool false]) w := run_assert_miss ptr_ImportBin (by kernel_rfl) v xT w h
theorem ptr_Index : Try.prog.underlying 85 = some (.pointer 88) := by kernel_rfl
@[go_sem] theorem hit_Index (v : Value) (xT : TypeId) (w : World) : (Instr.typeAssert (.iface 85 v) xT 85 true).run Try.prog w = .ok (.tuple #[v, .bool true]) w := run_assert_hit ptr_Index v xT w
@[go_sem] theorem miss_Index (T : TypeId) (v : Value) (xT : TypeId) (w : World) (h : ¬ T = 85) : (Instr.typeAssert (.iface T v) xT 85 true).run Try.prog w = .ok (.tuple #[.pointer none, .bool false]) w := run_assert_miss ptr_Index (by kernel_rfl) v xT w h
theorem ptr_Slice : Try.prog.underlying 89 = some (.pointer 91) := by kernel_rfl
@[go_sem] theorem hit_Slice (v : Value) (xT : TypeId) (w : World) : (Instr.typeAssert (.iface 89 v) xT 89 true).run Try.prog w = .ok (.tuple #[v, .bool true]) w := run_assert_hit ptr_Slice v xT w
@[go_sem] theorem miss_Slice (T : TypeId) (v : Value) (xT : TypeId) (w : World) (h : ¬ T = 89) : (Instr.typeAssert (.iface T v) xT 89 true).run Try.prog w = .ok (.tuple #[.pointer none, .bool false]) w := run_assert_miss ptr_Slice (by kernel_rfl) v xT w h
theorem ptr_Local : Try.prog.underlying 92 = some (.pointer 190) := by kernel_rfl
@[go_sem] theorem hit_Local (v : Value) (xT : TypeId) (w : World) : (Instr.typeAssert (.iface 92 v) xT 92 true).run Try.prog w = .ok (.tuple #[v, .bool true]) w := run_assert_hit ptr_Local v xT w
@[go_sem] theorem miss_Local (T : TypeId) (v : Value) (xT : TypeId) (w : World) (h : ¬ T = 92) : (Instr.typeAssert (.iface T v) xT 92 true).run Try.prog w = .ok (.tuple #[.pointer none, .bool false]) w := run_assert_miss ptr_Local (by kernel_rfl) v xT w h
theorem ptr_LiteralBoolean : Try.prog.underlying 93 = some (.pointer 170) := by kernel_rfl
@[go_sem] theorem hit_LiteralBoolean (v : Value) (xT : TypeId) (w : World) : (Instr.typeAssert (.iface 93 v) xT 93 true).run Try.prog w = .ok (.tuple #[v, .bool true]) w := run_assert_hit ptr_LiteralBoolean v xT w
@[go_sem] theorem miss_LiteralBoolean (T : TypeId) (v : Value) (xT : TypeId) (w : World) (h : ¬ T = 93) : (Instr.typeAssert (.iface T v) xT 93 true).run Try.prog w = .ok (.tuple #[.pointer none, .bool false]) w := run_assert_miss ptr_LiteralBoolean (by kernel_rfl) v xT w h
theorem ptr_LiteralNull : Try.prog.underlying 94 = some (.pointer 168) := by kernel_rfl
@[go_sem] theorem hit_LiteralNull (v : Value) (xT : TypeId) (w : World) : (Instr.typeAssert (.iface 94 v) xT 94 true).run Try.prog w = .ok (.tuple #[v, .bool true]) w := run_assert_hit ptr_LiteralNull v xT w
@[go_sem] theorem miss_LiteralNull (T : TypeId) (v : Value) (xT : TypeId) (w : World) (h : ¬ T = 94) : (Instr.typeAssert (.iface T v) xT 94 true).run Try.prog w = .ok (.tuple #[.pointer none, .bool false]) w := run_assert_miss ptr_LiteralNull (by kernel_rfl) v xT w h
theorem ptr_LiteralNumber : Try.prog.underlying 95 = some (.pointer 172) := by kernel_rfl
@[go_sem] theorem hit_LiteralNumber (v : Value) (xT : TypeId) (w : World) : (Instr.typeAssert (.iface 95 v) xT 95 true).run Try.prog w = .ok (.tuple #[v, .bool true]) w := run_assert_hit ptr_LiteralNumber v xT w
@[go_sem] theorem miss_LiteralNumber (T : TypeId) (v : Value) (xT : TypeId) (w : World) (h : ¬ T = 95) : (Instr.typeAssert (.iface T v) xT 95 true).run Try.prog w = .ok (.tuple #[.pointer none, .bool false]) w := run_assert_miss ptr_LiteralNumber (by kernel_rfl) v xT w h
theorem ptr_LiteralString : Try.prog.underlying 96 = some (.pointer 204) := by kernel_rfl
@[go_sem] theorem hit_LiteralString (v : Value) (xT : TypeId) (w : World) : (Instr.typeAssert (.iface 96 v) xT 96 true).run Try.prog w = .ok (.tuple #[v, .bool true]) w := run_assert_hit ptr_LiteralString v xT w
@[go_sem] theorem miss_LiteralString (T : TypeId) (v : Value) (xT : TypeId) (w : World) (h : ¬ T = 96) : (Instr.typeAssert (.iface T v) xT 96 true).run Try.prog w = .ok (.tuple #[.pointer none, .bool false]) w := run_assert_miss ptr_LiteralString (by kernel_rfl) v xT w h
theorem ptr_Object : Try.prog.underlying 97 = some (.pointer 103) := by kernel_rfl
@[go_sem] theorem hit_Object (v : Value) (xT : TypeId) (w : World) : (Instr.typeAssert (.iface 97 v) xT 97 true).run Try.prog w = .ok (.tuple #[v, .bool true]) w := run_assert_hit ptr_Object v xT w
@[go_sem] theorem miss_Object (T : TypeId) (v : Value) (xT : TypeId) (w : World) (h : ¬ T = 97) : (Instr.typeAssert (.iface T v) xT 97 true).run Try.prog w = .ok (.tuple #[.pointer none, .bool false]) w := run_assert_miss ptr_Object (by kernel_rfl) v xT w h
theorem ptr_DesugaredObject : Try.prog.underlying 104 = some (.pointer 152) := by kernel_rfl
@[go_sem] theorem hit_DesugaredObject (v : Value) (xT : TypeId) (w : World) : (Instr.typeAssert (.iface 104 v) xT 104 true).run Try.prog w = .ok (.tuple #[v, .bool true]) w := run_assert_hit ptr_DesugaredObject v xT w
@[go_sem] theorem miss_DesugaredObject (T : TypeId) (v : Value) (xT : TypeId) (w : World) (h : ¬ T = 104) : (Instr.typeAssert (.iface T v) xT 104 true).run Try.prog w = .ok (.tuple #[.pointer none, .bool false]) w := run_assert_miss ptr_DesugaredObject (by kernel_rfl) v xT w h
theorem ptr_ArrayComp : Try.prog.underlying 106 = some (.pointer 113) := by kernel_rfl
@[go_sem] theorem hit_ArrayComp (v : Value) (xT : TypeId) (w : World) : (Instr.typeAssert (.iface 106 v) xT 106 true).run Try.prog w = .ok (.tuple #[v, .bool true]) w := run_assert_hit ptr_ArrayComp v xT w
@[go_sem] theorem miss_ArrayComp (T : TypeId) (v : Value) (xT : TypeId) (w : World) (h : ¬ T = 106) : (Instr.typeAssert (.iface T v) xT 106 true).run Try.prog w = .ok (.tuple #[.pointer none, .bool false]) w := run_assert_miss ptr_ArrayComp (by kernel_rfl) v xT w h
theorem ptr_ObjectComp : Try.prog.underlying 116 = some (.pointer 118) := by kernel_rfl
@[go_sem] theorem hit_ObjectComp (v : Value) (xT : TypeId) (w : World) : (Instr.typeAssert (.iface 116 v) xT 116 true).run Try.prog w = .ok (.tuple #[v, .bool true]) w := run_assert_hit ptr_ObjectComp v xT w
@[go_sem] theorem miss_ObjectComp (T : TypeId) (v : Value) (xT : TypeId) (w : World) (h : ¬ T = 116) : (Instr.typeAssert (.iface T v) xT 116 true).run Try.prog w = .ok (.tuple #[.pointer none, .bool false]) w := run_assert_miss ptr_ObjectComp (by kernel_rfl) v xT w h
theorem ptr_Parens : Try.prog.underlying 119 = some (.pointer 121) := by kernel_rfl
@[go_sem] theorem hit_Parens (v : Value) (xT : TypeId) (w : World) : (Instr.typeAssert (.iface 119 v) xT 119 true).run Try.prog w = .ok (.tuple #[v, .bool true]) w := run_assert_hit ptr_Parens v xT w
@[go_sem] theorem miss_Parens (T : TypeId) (v : Value) (xT : TypeId) (w : World) (h : ¬ T = 119) : (Instr.typeAssert (.iface T v) xT 119 true).run Try.prog w = .ok (.tuple #[.pointer none, .bool false]) w := run_assert_miss ptr_Parens (by kernel_rfl) v xT w h
theorem ptr_Self : Try.prog.underlying 122 = some (.pointer 174) := by kernel_rfl
@[go_sem] theorem hit_Self (v : Value) (xT : TypeId) (w : World) : (Instr.typeAssert (.iface 122 v) xT 122 true).run Try.prog w = .ok (.tuple #[v, .bool true]) w := run_assert_hit ptr_Self v xT w
@[go_sem] theorem miss_Self (T : TypeId) (v : Value) (xT : TypeId) (w : World) (h : ¬ T = 122) : (Instr.typeAssert (.iface T v) xT 122 true).run Try.prog w = .ok (.tuple #[.pointer none, .bool false]) w := run_assert_miss ptr_Self (by kernel_rfl) v xT w h
theorem ptr_SuperIndex : Try.prog.underlying 123 = some (.pointer 125) := by kernel_rfl
@[go_sem] theorem hit_SuperIndex (v : Value) (xT : TypeId) (w : World) : (Instr.typeAssert (.iface 123 v) xT 123 true).run Try.prog w = .ok (.tuple #[v, .bool true]) w := run_assert_hit ptr_SuperIndex v xT w
@[go_sem] theorem miss_SuperIndex (T : TypeId) (v : Value) (xT : TypeId) (w : World) (h : ¬ T = 123) : (Instr.typeAssert (.iface T v) xT 123 true).run Try.prog w = .ok (.tuple #[.pointer none, .bool false]) w := run_assert_miss ptr_SuperIndex (by kernel_rfl) v xT w h
theorem ptr_InSuper : Try.prog.underlying 126 = some (.pointer 128) := by kernel_rfl
@[go_sem] theorem hit_InSuper (v : Value) (xT : TypeId) (w : World) : (Instr.typeAssert (.iface 126 v) xT 126 true).run Try.prog w = .ok (.tuple #[v, .bool true]) w := run_assert_hit ptr_InSuper v xT w
@[go_sem] theorem miss_InSuper (T : TypeId) (v : Value) (xT : TypeId) (w : World) (h : ¬ T = 126) : (Instr.typeAssert (.iface T v) xT 126 true).run Try.prog w = .ok (.tuple #[.pointer none, .bool false]) w := run_assert_miss ptr_InSuper (by kernel_rfl) v xT w h
theorem ptr_Unary : Try.prog.underlying 129 = some (.pointer 132) := by kernel_rfl
@[go_sem] theorem hit_Unary (v : Value) (xT : TypeId) (w : World) : (Instr.typeAssert (.iface 129 v) xT 129 true).run Try.prog w = .ok (.tuple #[v, .bool true]) w := run_assert_hit ptr_Unary v xT w
@[go_sem] theorem miss_Unary (T : TypeId) (v : Value) (xT : TypeId) (w : World) (h : ¬ T = 129) : (Instr.typeAssert (.iface T v) xT 129 true).run Try.prog w = .ok (.tuple #[.pointer none, .bool false]) w := run_assert_miss ptr_Unary (by kernel_rfl) v xT w h
theorem ptr_Var : Try.prog.underlying 133 = some (.pointer 177) := by kernel_rfl
@[go_sem] theorem hit_Var (v : Value) (xT : TypeId) (w : World) : (Instr.typeAssert (.iface 133 v) xT 133 true).run Try.prog w = .ok (.tuple #[v, .bool true]) w := run_assert_hit ptr_Var v xT w
@[go_sem] theorem miss_Var (T : TypeId) (v : Value) (xT : TypeId) (w : World) (h : ¬ T = 133) : (Instr.typeAssert (.iface T v) xT 133 true).run Try.prog w = .ok (.tuple #[.pointer none, .bool false]) w := run_assert_miss ptr_Var (by kernel_rfl) v xT w h

set_option maxRecDepth 100000 in
set_option maxHeartbeats 1600000 in
theorem dc_Array (x : Nat) (w : World) :
    Calls Try.prog 13 #[.iface 66 (.pointer (some ⟨x, 0, none⟩))] w fun e w' => e = .returned (.slice none 0 0) ∧ w' = w := by
  go_enter Try.func13, Try.ntmps13
  go_wp2
  go_ret
  exact ⟨rfl, rfl⟩

set_option maxRecDepth 100000 in
set_option maxHeartbeats 1600000 in
theorem dc_LiteralNull (x : Nat) (w : World) :
    Calls Try.prog 13 #[.iface 94 (.pointer (some ⟨x, 0, none⟩))] w fun e w' => e = .returned (.slice none 0 0) ∧ w' = w := by
  go_enter Try.func13, Try.ntmps13
  go_wp2
  go_ret
  exact ⟨rfl, rfl⟩

set_option maxRecDepth 100000 in
set_option maxHeartbeats 1600000 in
theorem dc_LiteralBoolean (x : Nat) (w : World) :
    Calls Try.prog 13 #[.iface 93 (.pointer (some ⟨x, 0, none⟩))] w fun e w' => e = .returned (.slice none 0 0) ∧ w' = w := by
  go_enter Try.func13, Try.ntmps13
  go_wp2
  go_ret
  exact ⟨rfl, rfl⟩

set_option maxRecDepth 100000 in
set_option maxHeartbeats 1600000 in
theorem dc_LiteralNumber (x : Nat) (w : World) :
    Calls Try.prog 13 #[.iface 95 (.pointer (some ⟨x, 0, none⟩))] w fun e w' => e = .returned (.slice none 0 0) ∧ w' = w := by
  go_enter Try.func13, Try.ntmps13
  go_wp2
  go_ret
  exact ⟨rfl, rfl⟩

set_option maxRecDepth 100000 in
set_option maxHeartbeats 1600000 in
theorem dc_LiteralString (x : Nat) (w : World) :
    Calls Try.prog 13 #[.iface 96 (.pointer (some ⟨x, 0, none⟩))] w fun e w' => e = .returned (.slice none 0 0) ∧ w' = w := by
  go_enter Try.func13, Try.ntmps13
  go_wp2
  go_ret
  exact ⟨rfl, rfl⟩

set_option maxRecDepth 100000 in
set_option maxHeartbeats 1600000 in
theorem dc_Self (x : Nat) (w : World) :
    Calls Try.prog 13 #[.iface 122 (.pointer (some ⟨x, 0, none⟩))] w fun e w' => e = .returned (.slice none 0 0) ∧ w' = w := by
  go_enter Try.func13, Try.ntmps13
  go_wp2
  go_ret
  exact ⟨rfl, rfl⟩

set_option maxRecDepth 100000 in
set_option maxHeartbeats 1600000 in
theorem dc_Dollar (x : Nat) (w : World) :
    Calls Try.prog 13 #[.iface 77 (.pointer (some ⟨x, 0, none⟩))] w fun e w' => e = .returned (.slice none 0 0) ∧ w' = w := by
  go_enter Try.func13, Try.ntmps13
  go_wp2
  go_ret
  exact ⟨rfl, rfl⟩

set_option maxRecDepth 100000 in
set_option maxHeartbeats 1600000 in
theorem dc_Var (x : Nat) (w : World) :
    Calls Try.prog 13 #[.iface 133 (.pointer (some ⟨x, 0, none⟩))] w fun e w' => e = .returned (.slice none 0 0) ∧ w' = w := by
  go_enter Try.func13, Try.ntmps13
  go_wp2
  go_ret
  exact ⟨rfl, rfl⟩

set_option maxRecDepth 100000 in
set_option maxHeartbeats 1600000 in
theorem dc_Unary (x : Nat) (w : World) (T0 : TypeId) (y0 : Nat) (h0 : w.cell? ⟨x, 0, none⟩ = some (.iface T0 (.pointer (some ⟨y0, 0, none⟩)))) :
    Calls Try.prog 13 #[.iface 129 (.pointer (some ⟨x, 0, none⟩))] w fun e w' => e = .returned (.slice (some ⟨w.heap.size, 0, none⟩) 1 1) ∧ Below w.heap.size w w' ∧ w'.cell? ⟨w.heap.size, 0, none⟩ = some (.iface T0 (.pointer (some ⟨y0, 0, none⟩))) := by
  go_enter Try.func13, Try.ntmps13
  go_wp2
  go_ret
  exact ⟨rfl, by go_grown, cell_of_block (block_new _ _) rfl⟩

set_option maxRecDepth 100000 in
set_option maxHeartbeats 1600000 in
theorem dc_Error (x : Nat) (w : World) (T0 : TypeId) (y0 : Nat) (h0 : w.cell? ⟨x, 0, none⟩ = some (.iface T0 (.pointer (some ⟨y0, 0, none⟩)))) :
    Calls Try.prog 13 #[.iface 78 (.pointer (some ⟨x, 0, none⟩))] w fun e w' => e = .returned (.slice (some ⟨w.heap.size, 0, none⟩) 1 1) ∧ Below w.heap.size w w' ∧ w'.cell? ⟨w.heap.size, 0, none⟩ = some (.iface T0 (.pointer (some ⟨y0, 0, none⟩))) := by
  go_enter Try.func13, Try.ntmps13
  go_wp2
  go_ret
  exact ⟨rfl, by go_grown, cell_of_block (block_new _ _) rfl⟩

set_option maxRecDepth 100000 in
set_option maxHeartbeats 1600000 in
theorem dc_Apply (x : Nat) (w : World) (T0 : TypeId) (y0 : Nat) (h0 : w.cell? ⟨x, 0, none⟩ = some (.iface T0 (.pointer (some ⟨y0, 0, none⟩)))) :
    Calls Try.prog 13 #[.iface 43 (.pointer (some ⟨x, 0, none⟩))] w fun e w' => e = .returned (.slice (some ⟨w.heap.size, 0, none⟩) 1 1) ∧ Below w.heap.size w w' ∧ w'.cell? ⟨w.heap.size, 0, none⟩ = some (.iface T0 (.pointer (some ⟨y0, 0, none⟩))) := by
  go_enter Try.func13, Try.ntmps13
  go_wp2
  go_ret
  exact ⟨rfl, by go_grown, cell_of_block (block_new _ _) rfl⟩

set_option maxRecDepth 100000 in
set_option maxHeartbeats 1600000 in
theorem dc_Binary (x : Nat) (w : World) (T0 : TypeId) (y0 : Nat) (T1 : TypeId) (y1 : Nat) (h0 : w.cell? ⟨x, 1, none⟩ = some (.iface T0 (.pointer (some ⟨y0, 0, none⟩)))) (h1 : w.cell? ⟨x, 0, none⟩ = some (.iface T1 (.pointer (some ⟨y1, 0, none⟩)))) :
    Calls Try.prog 13 #[.iface 70 (.pointer (some ⟨x, 0, none⟩))] w fun e w' => e = .returned (.slice (some ⟨w.heap.size, 0, none⟩) 2 2) ∧ Below w.heap.size w w' ∧ w'.cell? ⟨w.heap.size, 0, none⟩ = some (.iface T0 (.pointer (some ⟨y0, 0, none⟩))) ∧ w'.cell? ⟨w.heap.size, 1, none⟩ = some (.iface T1 (.pointer (some ⟨y1, 0, none⟩))) := by
  go_enter Try.func13, Try.ntmps13
  go_wp2
  go_region
  go_wp2
  go_ret
  exact ⟨rfl, by go_grown, cell_of_block (block_new _ _) rfl, cell_of_block (block_new _ _) rfl⟩

set_option maxRecDepth 100000 in
set_option maxHeartbeats 1600000 in
theorem dc_Index (x : Nat) (w : World) (T0 : TypeId) (y0 : Nat) (T1 : TypeId) (y1 : Nat) (h0 : w.cell? ⟨x, 0, none⟩ = some (.iface T0 (.pointer (some ⟨y0, 0, none⟩)))) (h1 : w.cell? ⟨x, 1, none⟩ = some (.iface T1 (.pointer (some ⟨y1, 0, none⟩)))) (hid : w.cell? ⟨x, 4, none⟩ = some (.pointer none)) :
    Calls Try.prog 13 #[.iface 85 (.pointer (some ⟨x, 0, none⟩))] w fun e w' => e = .returned (.slice (some ⟨w.heap.size, 0, none⟩) 2 2) ∧ Below w.heap.size w w' ∧ w'.cell? ⟨w.heap.size, 0, none⟩ = some (.iface T0 (.pointer (some ⟨y0, 0, none⟩))) ∧ w'.cell? ⟨w.heap.size, 1, none⟩ = some (.iface T1 (.pointer (some ⟨y1, 0, none⟩))) := by
  go_enter Try.func13, Try.ntmps13
  go_wp2
  go_region
  go_wp2
  go_ret
  exact ⟨rfl, by go_grown, cell_of_block (block_new _ _) rfl, cell_of_block (block_new _ _) rfl⟩
end Go.Proofs.Ytkpfbgeaodopoaa.fnDirect
