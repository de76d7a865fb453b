/-
  FnDirect: the recogniser: fields.
-/
import Derived.Test.YtkpfbgeaodopoaaDirRecB
namespace Go.Proofs.Ytkpfbgeaodopoaa.fnDirect
open Go.RowKit
set_option linter.unusedSimpArgs false
set_option linter.unusedVariables false

/-- What fieldBare finds. -/
def FieldOk (flag op : Int) : Prop := flag ∈ [(0 : Int), 1, 2, 4, 5, 6, 8, 9, 10] ∧ op ∈ [(0 : Int), 1, 2]

theorem ints16 {x : Int} (h1 : 0 ≤ x) (h2 : x ≤ 15) : x = 0 ∨ x = 1 ∨ x = 2 ∨ x = 3 ∨ x = 4 ∨ x = 5 ∨ x = 6 ∨ x = 7 ∨ x = 8 ∨ x = 9 ∨ x = 10 ∨ x = 11 ∨ x = 12 ∨ x = 13 ∨ x = 14 ∨ x = 15 := by omega

theorem ints3 {x : Int} (h1 : 0 ≤ x) (h2 : x ≤ 2) : x = 0 ∨ x = 1 ∨ x = 2 := by omega

set_option maxRecDepth 100000 in
set_option maxHeartbeats 1600000 in
theorem fieldBare_0 (kind op size : Int) (text : ByteArray) (hz : text.size ≤ 4000) (w : World) :
    Calls Try.prog 26 #[.agg #[.int .i64 kind, .int .i64 op, .string text, .int .i64 0, .int .i64 size]] w fun e w' => Yes (FieldOk 0 op) e ∧ Below w.heap.size w w' := by
  have t3 : bits BinOp.and IntKind.i64 0 3 = 0 := by kernel_rfl
  have t4 : bits BinOp.and IntKind.i64 0 4 = 0 := by kernel_rfl
  have t8 : bits BinOp.and IntKind.i64 0 8 = 0 := by kernel_rfl
  by_cases c1 : op < 0
  · go_enter Try.func26, Try.ntmps26
    go_wp2
    go_ret
    exact ⟨⟨_, rfl, fun h => by cases h⟩, by go_grown⟩
  by_cases c2 : op > 2
  · go_enter Try.func26, Try.ntmps26
    go_wp2
    go_ret
    exact ⟨⟨_, rfl, fun h => by cases h⟩, by go_grown⟩
  have HP : FieldOk 0 op := ⟨by decide, by rcases ints3 (x := op) (by omega) (by omega) with rfl | rfl | rfl <;> decide⟩
  have HP' := Lib.hid HP
  clear HP
  go_enter Try.func26, Try.ntmps26
  go_wp2_with (first | (go_at_call 25; refine (identifier_any text hz _).mono ?_; rintro e w1 ⟨⟨r, rfl, -⟩, hb1⟩; have hbw : Below w.heap.size w w1 := below_step (Nat.le_refl _) (by go_grown) hb1; cases r) | (go_at_call 24; refine (points_any text hz _).mono ?_; rintro e w1 ⟨⟨r, rfl, -⟩, hb1⟩; have hbw : Below w.heap.size w w1 := below_step (Nat.le_refl _) (by go_grown) hb1; cases r))
  all_goals
    go_ret
    exact ⟨⟨_, rfl, fun h => by first | exact HP'.out | cases h⟩, by first | exact hbw | go_grown⟩

set_option maxRecDepth 100000 in
set_option maxHeartbeats 1600000 in
theorem fieldBare_1 (kind op size : Int) (text : ByteArray) (hz : text.size ≤ 4000) (w : World) :
    Calls Try.prog 26 #[.agg #[.int .i64 kind, .int .i64 op, .string text, .int .i64 1, .int .i64 size]] w fun e w' => Yes (FieldOk 1 op) e ∧ Below w.heap.size w w' := by
  have t3 : bits BinOp.and IntKind.i64 1 3 = 1 := by kernel_rfl
  have t4 : bits BinOp.and IntKind.i64 1 4 = 0 := by kernel_rfl
  have t8 : bits BinOp.and IntKind.i64 1 8 = 0 := by kernel_rfl
  by_cases c1 : op < 0
  · go_enter Try.func26, Try.ntmps26
    go_wp2
    go_ret
    exact ⟨⟨_, rfl, fun h => by cases h⟩, by go_grown⟩
  by_cases c2 : op > 2
  · go_enter Try.func26, Try.ntmps26
    go_wp2
    go_ret
    exact ⟨⟨_, rfl, fun h => by cases h⟩, by go_grown⟩
  have HP : FieldOk 1 op := ⟨by decide, by rcases ints3 (x := op) (by omega) (by omega) with rfl | rfl | rfl <;> decide⟩
  have HP' := Lib.hid HP
  clear HP
  go_enter Try.func26, Try.ntmps26
  go_wp2_with (first | (go_at_call 25; refine (identifier_any text hz _).mono ?_; rintro e w1 ⟨⟨r, rfl, -⟩, hb1⟩; have hbw : Below w.heap.size w w1 := below_step (Nat.le_refl _) (by go_grown) hb1; cases r) | (go_at_call 24; refine (points_any text hz _).mono ?_; rintro e w1 ⟨⟨r, rfl, -⟩, hb1⟩; have hbw : Below w.heap.size w w1 := below_step (Nat.le_refl _) (by go_grown) hb1; cases r))
  all_goals
    go_ret
    exact ⟨⟨_, rfl, fun h => by first | exact HP'.out | cases h⟩, by first | exact hbw | go_grown⟩

set_option maxRecDepth 100000 in
set_option maxHeartbeats 1600000 in
theorem fieldBare_2 (kind op size : Int) (text : ByteArray) (hz : text.size ≤ 4000) (w : World) :
    Calls Try.prog 26 #[.agg #[.int .i64 kind, .int .i64 op, .string text, .int .i64 2, .int .i64 size]] w fun e w' => Yes (FieldOk 2 op) e ∧ Below w.heap.size w w' := by
  have t3 : bits BinOp.and IntKind.i64 2 3 = 2 := by kernel_rfl
  have t4 : bits BinOp.and IntKind.i64 2 4 = 0 := by kernel_rfl
  have t8 : bits BinOp.and IntKind.i64 2 8 = 0 := by kernel_rfl
  by_cases c1 : op < 0
  · go_enter Try.func26, Try.ntmps26
    go_wp2
    go_ret
    exact ⟨⟨_, rfl, fun h => by cases h⟩, by go_grown⟩
  by_cases c2 : op > 2
  · go_enter Try.func26, Try.ntmps26
    go_wp2
    go_ret
    exact ⟨⟨_, rfl, fun h => by cases h⟩, by go_grown⟩
  have HP : FieldOk 2 op := ⟨by decide, by rcases ints3 (x := op) (by omega) (by omega) with rfl | rfl | rfl <;> decide⟩
  have HP' := Lib.hid HP
  clear HP
  go_enter Try.func26, Try.ntmps26
  go_wp2_with (first | (go_at_call 25; refine (identifier_any text hz _).mono ?_; rintro e w1 ⟨⟨r, rfl, -⟩, hb1⟩; have hbw : Below w.heap.size w w1 := below_step (Nat.le_refl _) (by go_grown) hb1; cases r) | (go_at_call 24; refine (points_any text hz _).mono ?_; rintro e w1 ⟨⟨r, rfl, -⟩, hb1⟩; have hbw : Below w.heap.size w w1 := below_step (Nat.le_refl _) (by go_grown) hb1; cases r))
  all_goals
    go_ret
    exact ⟨⟨_, rfl, fun h => by first | exact HP'.out | cases h⟩, by first | exact hbw | go_grown⟩

set_option maxRecDepth 100000 in
set_option maxHeartbeats 1600000 in
theorem fieldBare_3 (kind op size : Int) (text : ByteArray) (hz : text.size ≤ 4000) (w : World) :
    Calls Try.prog 26 #[.agg #[.int .i64 kind, .int .i64 op, .string text, .int .i64 3, .int .i64 size]] w fun e w' => Yes (FieldOk 3 op) e ∧ Below w.heap.size w w' := by
  have t3 : bits BinOp.and IntKind.i64 3 3 = 3 := by kernel_rfl
  have t4 : bits BinOp.and IntKind.i64 3 4 = 0 := by kernel_rfl
  have t8 : bits BinOp.and IntKind.i64 3 8 = 0 := by kernel_rfl
  go_enter Try.func26, Try.ntmps26
  go_wp2
  go_ret
  exact ⟨⟨_, rfl, fun h => by cases h⟩, by go_grown⟩

set_option maxRecDepth 100000 in
set_option maxHeartbeats 1600000 in
theorem fieldBare_4 (kind op size : Int) (text : ByteArray) (hz : text.size ≤ 4000) (w : World) :
    Calls Try.prog 26 #[.agg #[.int .i64 kind, .int .i64 op, .string text, .int .i64 4, .int .i64 size]] w fun e w' => Yes (FieldOk 4 op) e ∧ Below w.heap.size w w' := by
  have t3 : bits BinOp.and IntKind.i64 4 3 = 0 := by kernel_rfl
  have t4 : bits BinOp.and IntKind.i64 4 4 = 4 := by kernel_rfl
  have t8 : bits BinOp.and IntKind.i64 4 8 = 0 := by kernel_rfl
  by_cases c1 : op < 0
  · go_enter Try.func26, Try.ntmps26
    go_wp2
    go_ret
    exact ⟨⟨_, rfl, fun h => by cases h⟩, by go_grown⟩
  by_cases c2 : op > 2
  · go_enter Try.func26, Try.ntmps26
    go_wp2
    go_ret
    exact ⟨⟨_, rfl, fun h => by cases h⟩, by go_grown⟩
  have HP : FieldOk 4 op := ⟨by decide, by rcases ints3 (x := op) (by omega) (by omega) with rfl | rfl | rfl <;> decide⟩
  have HP' := Lib.hid HP
  clear HP
  go_enter Try.func26, Try.ntmps26
  go_wp2_with (first | (go_at_call 25; refine (identifier_any text hz _).mono ?_; rintro e w1 ⟨⟨r, rfl, -⟩, hb1⟩; have hbw : Below w.heap.size w w1 := below_step (Nat.le_refl _) (by go_grown) hb1; cases r) | (go_at_call 24; refine (points_any text hz _).mono ?_; rintro e w1 ⟨⟨r, rfl, -⟩, hb1⟩; have hbw : Below w.heap.size w w1 := below_step (Nat.le_refl _) (by go_grown) hb1; cases r))
  all_goals
    go_ret
    exact ⟨⟨_, rfl, fun h => by first | exact HP'.out | cases h⟩, by first | exact hbw | go_grown⟩

set_option maxRecDepth 100000 in
set_option maxHeartbeats 1600000 in
theorem fieldBare_5 (kind op size : Int) (text : ByteArray) (hz : text.size ≤ 4000) (w : World) :
    Calls Try.prog 26 #[.agg #[.int .i64 kind, .int .i64 op, .string text, .int .i64 5, .int .i64 size]] w fun e w' => Yes (FieldOk 5 op) e ∧ Below w.heap.size w w' := by
  have t3 : bits BinOp.and IntKind.i64 5 3 = 1 := by kernel_rfl
  have t4 : bits BinOp.and IntKind.i64 5 4 = 4 := by kernel_rfl
  have t8 : bits BinOp.and IntKind.i64 5 8 = 0 := by kernel_rfl
  by_cases c1 : op < 0
  · go_enter Try.func26, Try.ntmps26
    go_wp2
    go_ret
    exact ⟨⟨_, rfl, fun h => by cases h⟩, by go_grown⟩
  by_cases c2 : op > 2
  · go_enter Try.func26, Try.ntmps26
    go_wp2
    go_ret
    exact ⟨⟨_, rfl, fun h => by cases h⟩, by go_grown⟩
  have HP : FieldOk 5 op := ⟨by decide, by rcases ints3 (x := op) (by omega) (by omega) with rfl | rfl | rfl <;> decide⟩
  have HP' := Lib.hid HP
  clear HP
  go_enter Try.func26, Try.ntmps26
  go_wp2_with (first | (go_at_call 25; refine (identifier_any text hz _).mono ?_; rintro e w1 ⟨⟨r, rfl, -⟩, hb1⟩; have hbw : Below w.heap.size w w1 := below_step (Nat.le_refl _) (by go_grown) hb1; cases r) | (go_at_call 24; refine (points_any text hz _).mono ?_; rintro e w1 ⟨⟨r, rfl, -⟩, hb1⟩; have hbw : Below w.heap.size w w1 := below_step (Nat.le_refl _) (by go_grown) hb1; cases r))
  all_goals
    go_ret
    exact ⟨⟨_, rfl, fun h => by first | exact HP'.out | cases h⟩, by first | exact hbw | go_grown⟩

set_option maxRecDepth 100000 in
set_option maxHeartbeats 1600000 in
theorem fieldBare_6 (kind op size : Int) (text : ByteArray) (hz : text.size ≤ 4000) (w : World) :
    Calls Try.prog 26 #[.agg #[.int .i64 kind, .int .i64 op, .string text, .int .i64 6, .int .i64 size]] w fun e w' => Yes (FieldOk 6 op) e ∧ Below w.heap.size w w' := by
  have t3 : bits BinOp.and IntKind.i64 6 3 = 2 := by kernel_rfl
  have t4 : bits BinOp.and IntKind.i64 6 4 = 4 := by kernel_rfl
  have t8 : bits BinOp.and IntKind.i64 6 8 = 0 := by kernel_rfl
  by_cases c1 : op < 0
  · go_enter Try.func26, Try.ntmps26
    go_wp2
    go_ret
    exact ⟨⟨_, rfl, fun h => by cases h⟩, by go_grown⟩
  by_cases c2 : op > 2
  · go_enter Try.func26, Try.ntmps26
    go_wp2
    go_ret
    exact ⟨⟨_, rfl, fun h => by cases h⟩, by go_grown⟩
  have HP : FieldOk 6 op := ⟨by decide, by rcases ints3 (x := op) (by omega) (by omega) with rfl | rfl | rfl <;> decide⟩
  have HP' := Lib.hid HP
  clear HP
  go_enter Try.func26, Try.ntmps26
  go_wp2_with (first | (go_at_call 25; refine (identifier_any text hz _).mono ?_; rintro e w1 ⟨⟨r, rfl, -⟩, hb1⟩; have hbw : Below w.heap.size w w1 := below_step (Nat.le_refl _) (by go_grown) hb1; cases r) | (go_at_call 24; refine (points_any text hz _).mono ?_; rintro e w1 ⟨⟨r, rfl, -⟩, hb1⟩; have hbw : Below w.heap.size w w1 := below_step (Nat.le_refl _) (by go_grown) hb1; cases r))
  all_goals
    go_ret
    exact ⟨⟨_, rfl, fun h => by first | exact HP'.out | cases h⟩, by first | exact hbw | go_grown⟩

set_option maxRecDepth 100000 in
set_option maxHeartbeats 1600000 in
theorem fieldBare_7 (kind op size : Int) (text : ByteArray) (hz : text.size ≤ 4000) (w : World) :
    Calls Try.prog 26 #[.agg #[.int .i64 kind, .int .i64 op, .string text, .int .i64 7, .int .i64 size]] w fun e w' => Yes (FieldOk 7 op) e ∧ Below w.heap.size w w' := by
  have t3 : bits BinOp.and IntKind.i64 7 3 = 3 := by kernel_rfl
  have t4 : bits BinOp.and IntKind.i64 7 4 = 4 := by kernel_rfl
  have t8 : bits BinOp.and IntKind.i64 7 8 = 0 := by kernel_rfl
  go_enter Try.func26, Try.ntmps26
  go_wp2
  go_ret
  exact ⟨⟨_, rfl, fun h => by cases h⟩, by go_grown⟩

set_option maxRecDepth 100000 in
set_option maxHeartbeats 1600000 in
theorem fieldBare_8 (kind op size : Int) (text : ByteArray) (hz : text.size ≤ 4000) (w : World) :
    Calls Try.prog 26 #[.agg #[.int .i64 kind, .int .i64 op, .string text, .int .i64 8, .int .i64 size]] w fun e w' => Yes (FieldOk 8 op) e ∧ Below w.heap.size w w' := by
  have t3 : bits BinOp.and IntKind.i64 8 3 = 0 := by kernel_rfl
  have t4 : bits BinOp.and IntKind.i64 8 4 = 0 := by kernel_rfl
  have t8 : bits BinOp.and IntKind.i64 8 8 = 8 := by kernel_rfl
  by_cases c1 : op < 0
  · go_enter Try.func26, Try.ntmps26
    go_wp2
    go_ret
    exact ⟨⟨_, rfl, fun h => by cases h⟩, by go_grown⟩
  by_cases c2 : op > 2
  · go_enter Try.func26, Try.ntmps26
    go_wp2
    go_ret
    exact ⟨⟨_, rfl, fun h => by cases h⟩, by go_grown⟩
  have HP : FieldOk 8 op := ⟨by decide, by rcases ints3 (x := op) (by omega) (by omega) with rfl | rfl | rfl <;> decide⟩
  have HP' := Lib.hid HP
  clear HP
  go_enter Try.func26, Try.ntmps26
  go_wp2_with (first | (go_at_call 25; refine (identifier_any text hz _).mono ?_; rintro e w1 ⟨⟨r, rfl, -⟩, hb1⟩; have hbw : Below w.heap.size w w1 := below_step (Nat.le_refl _) (by go_grown) hb1; cases r) | (go_at_call 24; refine (points_any text hz _).mono ?_; rintro e w1 ⟨⟨r, rfl, -⟩, hb1⟩; have hbw : Below w.heap.size w w1 := below_step (Nat.le_refl _) (by go_grown) hb1; cases r))
  all_goals
    go_ret
    exact ⟨⟨_, rfl, fun h => by first | exact HP'.out | cases h⟩, by first | exact hbw | go_grown⟩

set_option maxRecDepth 100000 in
set_option maxHeartbeats 1600000 in
theorem fieldBare_9 (kind op size : Int) (text : ByteArray) (hz : text.size ≤ 4000) (w : World) :
    Calls Try.prog 26 #[.agg #[.int .i64 kind, .int .i64 op, .string text, .int .i64 9, .int .i64 size]] w fun e w' => Yes (FieldOk 9 op) e ∧ Below w.heap.size w w' := by
  have t3 : bits BinOp.and IntKind.i64 9 3 = 1 := by kernel_rfl
  have t4 : bits BinOp.and IntKind.i64 9 4 = 0 := by kernel_rfl
  have t8 : bits BinOp.and IntKind.i64 9 8 = 8 := by kernel_rfl
  by_cases c1 : op < 0
  · go_enter Try.func26, Try.ntmps26
    go_wp2
    go_ret
    exact ⟨⟨_, rfl, fun h => by cases h⟩, by go_grown⟩
  by_cases c2 : op > 2
  · go_enter Try.func26, Try.ntmps26
    go_wp2
    go_ret
    exact ⟨⟨_, rfl, fun h => by cases h⟩, by go_grown⟩
  have HP : FieldOk 9 op := ⟨by decide, by rcases ints3 (x := op) (by omega) (by omega) with rfl | rfl | rfl <;> decide⟩
  have HP' := Lib.hid HP
  clear HP
  go_enter Try.func26, Try.ntmps26
  go_wp2_with (first | (go_at_call 25; refine (identifier_any text hz _).mono ?_; rintro e w1 ⟨⟨r, rfl, -⟩, hb1⟩; have hbw : Below w.heap.size w w1 := below_step (Nat.le_refl _) (by go_grown) hb1; cases r) | (go_at_call 24; refine (points_any text hz _).mono ?_; rintro e w1 ⟨⟨r, rfl, -⟩, hb1⟩; have hbw : Below w.heap.size w w1 := below_step (Nat.le_refl _) (by go_grown) hb1; cases r))
  all_goals
    go_ret
    exact ⟨⟨_, rfl, fun h => by first | exact HP'.out | cases h⟩, by first | exact hbw | go_grown⟩

set_option maxRecDepth 100000 in
set_option maxHeartbeats 1600000 in
theorem fieldBare_10 (kind op size : Int) (text : ByteArray) (hz : text.size ≤ 4000) (w : World) :
    Calls Try.prog 26 #[.agg #[.int .i64 kind, .int .i64 op, .string text, .int .i64 10, .int .i64 size]] w fun e w' => Yes (FieldOk 10 op) e ∧ Below w.heap.size w w' := by
  have t3 : bits BinOp.and IntKind.i64 10 3 = 2 := by kernel_rfl
  have t4 : bits BinOp.and IntKind.i64 10 4 = 0 := by kernel_rfl
  have t8 : bits BinOp.and IntKind.i64 10 8 = 8 := by kernel_rfl
  by_cases c1 : op < 0
  · go_enter Try.func26, Try.ntmps26
    go_wp2
    go_ret
    exact ⟨⟨_, rfl, fun h => by cases h⟩, by go_grown⟩
  by_cases c2 : op > 2
  · go_enter Try.func26, Try.ntmps26
    go_wp2
    go_ret
    exact ⟨⟨_, rfl, fun h => by cases h⟩, by go_grown⟩
  have HP : FieldOk 10 op := ⟨by decide, by rcases ints3 (x := op) (by omega) (by omega) with rfl | rfl | rfl <;> decide⟩
  have HP' := Lib.hid HP
  clear HP
  go_enter Try.func26, Try.ntmps26
  go_wp2_with (first | (go_at_call 25; refine (identifier_any text hz _).mono ?_; rintro e w1 ⟨⟨r, rfl, -⟩, hb1⟩; have hbw : Below w.heap.size w w1 := below_step (Nat.le_refl _) (by go_grown) hb1; cases r) | (go_at_call 24; refine (points_any text hz _).mono ?_; rintro e w1 ⟨⟨r, rfl, -⟩, hb1⟩; have hbw : Below w.heap.size w w1 := below_step (Nat.le_refl _) (by go_grown) hb1; cases r))
  all_goals
    go_ret
    exact ⟨⟨_, rfl, fun h => by first | exact HP'.out | cases h⟩, by first | exact hbw | go_grown⟩

set_option maxRecDepth 100000 in
set_option maxHeartbeats 1600000 in
theorem fieldBare_11 (kind op size : Int) (text : ByteArray) (hz : text.size ≤ 4000) (w : World) :
    Calls Try.prog 26 #[.agg #[.int .i64 kind, .int .i64 op, .string text, .int .i64 11, .int .i64 size]] w fun e w' => Yes (FieldOk 11 op) e ∧ Below w.heap.size w w' := by
  have t3 : bits BinOp.and IntKind.i64 11 3 = 3 := by kernel_rfl
  have t4 : bits BinOp.and IntKind.i64 11 4 = 0 := by kernel_rfl
  have t8 : bits BinOp.and IntKind.i64 11 8 = 8 := by kernel_rfl
  go_enter Try.func26, Try.ntmps26
  go_wp2
  go_ret
  exact ⟨⟨_, rfl, fun h => by cases h⟩, by go_grown⟩

set_option maxRecDepth 100000 in
set_option maxHeartbeats 1600000 in
theorem fieldBare_12 (kind op size : Int) (text : ByteArray) (hz : text.size ≤ 4000) (w : World) :
    Calls Try.prog 26 #[.agg #[.int .i64 kind, .int .i64 op, .string text, .int .i64 12, .int .i64 size]] w fun e w' => Yes (FieldOk 12 op) e ∧ Below w.heap.size w w' := by
  have t3 : bits BinOp.and IntKind.i64 12 3 = 0 := by kernel_rfl
  have t4 : bits BinOp.and IntKind.i64 12 4 = 4 := by kernel_rfl
  have t8 : bits BinOp.and IntKind.i64 12 8 = 8 := by kernel_rfl
  go_enter Try.func26, Try.ntmps26
  go_wp2
  go_ret
  exact ⟨⟨_, rfl, fun h => by cases h⟩, by go_grown⟩

set_option maxRecDepth 100000 in
set_option maxHeartbeats 1600000 in
theorem fieldBare_13 (kind op size : Int) (text : ByteArray) (hz : text.size ≤ 4000) (w : World) :
    Calls Try.prog 26 #[.agg #[.int .i64 kind, .int .i64 op, .string text, .int .i64 13, .int .i64 size]] w fun e w' => Yes (FieldOk 13 op) e ∧ Below w.heap.size w w' := by
  have t3 : bits BinOp.and IntKind.i64 13 3 = 1 := by kernel_rfl
  have t4 : bits BinOp.and IntKind.i64 13 4 = 4 := by kernel_rfl
  have t8 : bits BinOp.and IntKind.i64 13 8 = 8 := by kernel_rfl
  go_enter Try.func26, Try.ntmps26
  go_wp2
  go_ret
  exact ⟨⟨_, rfl, fun h => by cases h⟩, by go_grown⟩

set_option maxRecDepth 100000 in
set_option maxHeartbeats 1600000 in
theorem fieldBare_14 (kind op size : Int) (text : ByteArray) (hz : text.size ≤ 4000) (w : World) :
    Calls Try.prog 26 #[.agg #[.int .i64 kind, .int .i64 op, .string text, .int .i64 14, .int .i64 size]] w fun e w' => Yes (FieldOk 14 op) e ∧ Below w.heap.size w w' := by
  have t3 : bits BinOp.and IntKind.i64 14 3 = 2 := by kernel_rfl
  have t4 : bits BinOp.and IntKind.i64 14 4 = 4 := by kernel_rfl
  have t8 : bits BinOp.and IntKind.i64 14 8 = 8 := by kernel_rfl
  go_enter Try.func26, Try.ntmps26
  go_wp2
  go_ret
  exact ⟨⟨_, rfl, fun h => by cases h⟩, by go_grown⟩

set_option maxRecDepth 100000 in
set_option maxHeartbeats 1600000 in
theorem fieldBare_15 (kind op size : Int) (text : ByteArray) (hz : text.size ≤ 4000) (w : World) :
    Calls Try.prog 26 #[.agg #[.int .i64 kind, .int .i64 op, .string text, .int .i64 15, .int .i64 size]] w fun e w' => Yes (FieldOk 15 op) e ∧ Below w.heap.size w w' := by
  have t3 : bits BinOp.and IntKind.i64 15 3 = 3 := by kernel_rfl
  have t4 : bits BinOp.and IntKind.i64 15 4 = 4 := by kernel_rfl
  have t8 : bits BinOp.and IntKind.i64 15 8 = 8 := by kernel_rfl
  go_enter Try.func26, Try.ntmps26
  go_wp2
  go_ret
  exact ⟨⟨_, rfl, fun h => by cases h⟩, by go_grown⟩

set_option maxRecDepth 100000 in
theorem fieldBare_yes (kind op flag size : Int) (text : ByteArray) (hz : text.size ≤ 4000) (w : World) :
    Calls Try.prog 26 #[(.agg #[.int .i64 kind, .int .i64 op, .string text, .int .i64 flag, .int .i64 size])] w fun e w' => Yes (FieldOk flag op) e ∧ Below w.heap.size w w' := by
  by_cases c1 : flag < 0
  · go_enter Try.func26, Try.ntmps26
    go_wp2
    go_ret
    exact ⟨⟨_, rfl, fun h => by cases h⟩, by go_grown⟩
  by_cases c2 : flag > 15
  · go_enter Try.func26, Try.ntmps26
    go_wp2
    go_ret
    exact ⟨⟨_, rfl, fun h => by cases h⟩, by go_grown⟩
  rcases ints16 (x := flag) (by omega) (by omega) with rfl | rfl | rfl | rfl | rfl | rfl | rfl | rfl | rfl | rfl | rfl | rfl | rfl | rfl | rfl | rfl
  · exact fieldBare_0 kind op size text hz w
  · exact fieldBare_1 kind op size text hz w
  · exact fieldBare_2 kind op size text hz w
  · exact fieldBare_3 kind op size text hz w
  · exact fieldBare_4 kind op size text hz w
  · exact fieldBare_5 kind op size text hz w
  · exact fieldBare_6 kind op size text hz w
  · exact fieldBare_7 kind op size text hz w
  · exact fieldBare_8 kind op size text hz w
  · exact fieldBare_9 kind op size text hz w
  · exact fieldBare_10 kind op size text hz w
  · exact fieldBare_11 kind op size text hz w
  · exact fieldBare_12 kind op size text hz w
  · exact fieldBare_13 kind op size text hz w
  · exact fieldBare_14 kind op size text hz w
  · exact fieldBare_15 kind op size text hz w
end Go.Proofs.Ytkpfbgeaodopoaa.fnDirect
