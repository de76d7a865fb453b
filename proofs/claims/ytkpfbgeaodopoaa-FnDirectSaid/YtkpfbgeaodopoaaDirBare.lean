/-
  FnDirect: the recogniser: nodes by themselves.
-/
import Derived.Test.YtkpfbgeaodopoaaDirBareA
import Derived.Test.YtkpfbgeaodopoaaHeld
namespace Go.Proofs.Ytkpfbgeaodopoaa.fnDirect
open Go.RowKit
set_option linter.unusedSimpArgs false
set_option linter.unusedVariables false

theorem txt_isEmpty {t : ByteArray} (h : t.size ≠ 0) : t.toList.isEmpty = false := by
  rw [ByteArray.toList_eq]
  cases hl : t.data.toList with
  | nil => exact absurd (by rw [← ByteArray.size_data, ← Array.length_toList, hl]; rfl) h
  | cons a l => rfl

theorem txt_empty {t : ByteArray} (h : t.size = 0) : t = ⟨#[]⟩ := by
  obtain ⟨⟨l⟩⟩ := t
  cases l with
  | nil => rfl
  | cons a l => exact absurd h (by simp [ByteArray.size])

/-- What bare finds. -/
def BareOk (kind op flag : Int) : Prop := (kind = 22 → 1 ≤ op ∧ op ≤ 4) ∧ (kind = 23 → 1 ≤ op ∧ op ≤ 19) ∧ (kind ∈ [(9 : Int), 18, 25, 32, 37] → flag = 0 ∨ flag = 1) ∧ (kind = 35 → FieldOk flag op)


set_option maxRecDepth 100000 in
set_option maxHeartbeats 1600000 in
theorem bare_5 (op flag size : Int) (text : ByteArray) (hz : text.size ≤ 4000) (w : World) :
    Calls Try.prog 16 #[.agg #[.int .i64 5, .int .i64 op, .string text, .int .i64 flag, .int .i64 size]] w fun e w' => Yes (BareOk 5 op flag) e ∧ Below w.heap.size w w' := by
  have HP : Hid (BareOk 5 op flag) := Lib.hid ⟨fun h => by omega, fun h => by omega, fun h => absurd h (by decide), fun h => by omega⟩
  go_enter Try.func16, Try.ntmps16
  go_wp2_with fail
  go_region
  go_wp2_with (go_at_call 24; refine (points_any text hz _).mono ?_; rintro e w1 ⟨⟨r, rfl, -⟩, hb1⟩; have hbw : Below w.heap.size w w1 := below_step (Nat.le_refl _) (by go_grown) hb1; have d2 : w1.cell? ⟨w.heap.size, 2, none⟩ = some (.string text) := cell_later hb1 (cell_drew (cell_of_block (block_new w _) rfl)); cases r)
  all_goals
    go_ret
    exact ⟨⟨_, rfl, fun h => by first | exact HP.out | cases h⟩, by first | exact hbw | go_grown⟩

set_option maxRecDepth 100000 in
set_option maxHeartbeats 1600000 in
theorem bare_26 (op flag size : Int) (text : ByteArray) (hz : text.size ≤ 4000) (w : World) :
    Calls Try.prog 16 #[.agg #[.int .i64 26, .int .i64 op, .string text, .int .i64 flag, .int .i64 size]] w fun e w' => Yes (BareOk 26 op flag) e ∧ Below w.heap.size w w' := by
  have HP : Hid (BareOk 26 op flag) := Lib.hid ⟨fun h => by omega, fun h => by omega, fun h => absurd h (by decide), fun h => by omega⟩
  go_enter Try.func16, Try.ntmps16
  go_wp2_with fail
  go_region
  go_wp2_with (first | (go_at_call 25; refine (identifier_any text hz _).mono ?_; rintro e w1 ⟨⟨r, rfl, -⟩, hb1⟩; have hbw : Below w.heap.size w w1 := below_step (Nat.le_refl _) (by go_grown) hb1; cases r) | (go_at_call 24; refine (points_any text hz _).mono ?_; rintro e w1 ⟨⟨r, rfl, -⟩, hb1⟩; have hbw : Below w.heap.size w w1 := below_step (Nat.le_refl _) (by go_grown) hb1; cases r))
  all_goals
    go_ret
    exact ⟨⟨_, rfl, fun h => by first | exact HP.out | cases h⟩, by first | exact hbw | go_grown⟩

set_option maxRecDepth 100000 in
set_option maxHeartbeats 1600000 in
theorem bare_27 (op flag size : Int) (text : ByteArray) (hz : text.size ≤ 4000) (w : World) :
    Calls Try.prog 16 #[.agg #[.int .i64 27, .int .i64 op, .string text, .int .i64 flag, .int .i64 size]] w fun e w' => Yes (BareOk 27 op flag) e ∧ Below w.heap.size w w' := by
  have HP : Hid (BareOk 27 op flag) := Lib.hid ⟨fun h => by omega, fun h => by omega, fun h => absurd h (by decide), fun h => by omega⟩
  go_enter Try.func16, Try.ntmps16
  go_wp2_with fail
  go_region
  go_wp2_with (first | (go_at_call 25; refine (identifier_any text hz _).mono ?_; rintro e w1 ⟨⟨r, rfl, -⟩, hb1⟩; have hbw : Below w.heap.size w w1 := below_step (Nat.le_refl _) (by go_grown) hb1; cases r) | (go_at_call 24; refine (points_any text hz _).mono ?_; rintro e w1 ⟨⟨r, rfl, -⟩, hb1⟩; have hbw : Below w.heap.size w w1 := below_step (Nat.le_refl _) (by go_grown) hb1; cases r))
  all_goals
    go_ret
    exact ⟨⟨_, rfl, fun h => by first | exact HP.out | cases h⟩, by first | exact hbw | go_grown⟩

set_option maxRecDepth 100000 in
set_option maxHeartbeats 1600000 in
theorem bare_28 (op flag size : Int) (text : ByteArray) (hz : text.size ≤ 4000) (w : World) :
    Calls Try.prog 16 #[.agg #[.int .i64 28, .int .i64 op, .string text, .int .i64 flag, .int .i64 size]] w fun e w' => Yes (BareOk 28 op flag) e ∧ Below w.heap.size w w' := by
  have HP : Hid (BareOk 28 op flag) := Lib.hid ⟨fun h => by omega, fun h => by omega, fun h => absurd h (by decide), fun h => by omega⟩
  go_enter Try.func16, Try.ntmps16
  go_wp2_with fail
  go_region
  go_wp2_with (first | (go_at_call 25; refine (identifier_any text hz _).mono ?_; rintro e w1 ⟨⟨r, rfl, -⟩, hb1⟩; have hbw : Below w.heap.size w w1 := below_step (Nat.le_refl _) (by go_grown) hb1; cases r) | (go_at_call 24; refine (points_any text hz _).mono ?_; rintro e w1 ⟨⟨r, rfl, -⟩, hb1⟩; have hbw : Below w.heap.size w w1 := below_step (Nat.le_refl _) (by go_grown) hb1; cases r))
  all_goals
    go_ret
    exact ⟨⟨_, rfl, fun h => by first | exact HP.out | cases h⟩, by first | exact hbw | go_grown⟩

set_option maxRecDepth 100000 in
set_option maxHeartbeats 1600000 in
theorem bare_8 (op flag size : Int) (text : ByteArray) (hz : text.size ≤ 4000) (w : World) :
    Calls Try.prog 16 #[.agg #[.int .i64 8, .int .i64 op, .string text, .int .i64 flag, .int .i64 size]] w fun e w' => Yes (BareOk 8 op flag) e ∧ Below w.heap.size w w' := by
  have HP : Hid (BareOk 8 op flag) := Lib.hid ⟨fun h => by omega, fun h => by omega, fun h => absurd h (by decide), fun h => by omega⟩
  go_enter Try.func16, Try.ntmps16
  go_wp2_with fail
  go_region
  go_wp2_with (first | (go_at_call 25; refine (identifier_any text hz _).mono ?_; rintro e w1 ⟨⟨r, rfl, -⟩, hb1⟩; have hbw : Below w.heap.size w w1 := below_step (Nat.le_refl _) (by go_grown) hb1; cases r) | (go_at_call 24; refine (points_any text hz _).mono ?_; rintro e w1 ⟨⟨r, rfl, -⟩, hb1⟩; have hbw : Below w.heap.size w w1 := below_step (Nat.le_refl _) (by go_grown) hb1; cases r))
  all_goals
    go_ret
    exact ⟨⟨_, rfl, fun h => by first | exact HP.out | cases h⟩, by first | exact hbw | go_grown⟩

set_option maxRecDepth 100000 in
set_option maxHeartbeats 1600000 in
theorem bare_16 (op flag size : Int) (text : ByteArray) (hz : text.size ≤ 4000) (w : World) :
    Calls Try.prog 16 #[.agg #[.int .i64 16, .int .i64 op, .string text, .int .i64 flag, .int .i64 size]] w fun e w' => Yes (BareOk 16 op flag) e ∧ Below w.heap.size w w' := by
  have HP : Hid (BareOk 16 op flag) := Lib.hid ⟨fun h => by omega, fun h => by omega, fun h => absurd h (by decide), fun h => by omega⟩
  go_enter Try.func16, Try.ntmps16
  go_wp2_with fail
  go_region
  go_wp2_with (first | (go_at_call 25; refine (identifier_any text hz _).mono ?_; rintro e w1 ⟨⟨r, rfl, -⟩, hb1⟩; have hbw : Below w.heap.size w w1 := below_step (Nat.le_refl _) (by go_grown) hb1; cases r) | (go_at_call 24; refine (points_any text hz _).mono ?_; rintro e w1 ⟨⟨r, rfl, -⟩, hb1⟩; have hbw : Below w.heap.size w w1 := below_step (Nat.le_refl _) (by go_grown) hb1; cases r))
  all_goals
    go_ret
    exact ⟨⟨_, rfl, fun h => by first | exact HP.out | cases h⟩, by first | exact hbw | go_grown⟩

set_option maxRecDepth 100000 in
set_option maxHeartbeats 1600000 in
theorem bare_33 (op flag size : Int) (text : ByteArray) (hz : text.size ≤ 4000) (w : World) :
    Calls Try.prog 16 #[.agg #[.int .i64 33, .int .i64 op, .string text, .int .i64 flag, .int .i64 size]] w fun e w' => Yes (BareOk 33 op flag) e ∧ Below w.heap.size w w' := by
  have HP : Hid (BareOk 33 op flag) := Lib.hid ⟨fun h => by omega, fun h => by omega, fun h => absurd h (by decide), fun h => by omega⟩
  go_enter Try.func16, Try.ntmps16
  go_wp2_with fail
  go_region
  go_wp2_with (first | (go_at_call 25; refine (identifier_any text hz _).mono ?_; rintro e w1 ⟨⟨r, rfl, -⟩, hb1⟩; have hbw : Below w.heap.size w w1 := below_step (Nat.le_refl _) (by go_grown) hb1; cases r) | (go_at_call 24; refine (points_any text hz _).mono ?_; rintro e w1 ⟨⟨r, rfl, -⟩, hb1⟩; have hbw : Below w.heap.size w w1 := below_step (Nat.le_refl _) (by go_grown) hb1; cases r))
  all_goals
    go_ret
    exact ⟨⟨_, rfl, fun h => by first | exact HP.out | cases h⟩, by first | exact hbw | go_grown⟩

set_option maxRecDepth 100000 in
set_option maxHeartbeats 1600000 in
theorem bare_38 (op flag size : Int) (text : ByteArray) (hz : text.size ≤ 4000) (w : World) :
    Calls Try.prog 16 #[.agg #[.int .i64 38, .int .i64 op, .string text, .int .i64 flag, .int .i64 size]] w fun e w' => Yes (BareOk 38 op flag) e ∧ Below w.heap.size w w' := by
  have HP : Hid (BareOk 38 op flag) := Lib.hid ⟨fun h => by omega, fun h => by omega, fun h => absurd h (by decide), fun h => by omega⟩
  go_enter Try.func16, Try.ntmps16
  go_wp2_with fail
  go_region
  go_wp2_with (first | (go_at_call 25; refine (identifier_any text hz _).mono ?_; rintro e w1 ⟨⟨r, rfl, -⟩, hb1⟩; have hbw : Below w.heap.size w w1 := below_step (Nat.le_refl _) (by go_grown) hb1; cases r) | (go_at_call 24; refine (points_any text hz _).mono ?_; rintro e w1 ⟨⟨r, rfl, -⟩, hb1⟩; have hbw : Below w.heap.size w w1 := below_step (Nat.le_refl _) (by go_grown) hb1; cases r))
  all_goals
    go_ret
    exact ⟨⟨_, rfl, fun h => by first | exact HP.out | cases h⟩, by first | exact hbw | go_grown⟩

set_option maxRecDepth 100000 in
set_option maxHeartbeats 1600000 in
theorem bare_34 (op flag size : Int) (text : ByteArray) (hz : text.size ≤ 4000) (w : World) :
    Calls Try.prog 16 #[.agg #[.int .i64 34, .int .i64 op, .string text, .int .i64 flag, .int .i64 size]] w fun e w' => Yes (BareOk 34 op flag) e ∧ Below w.heap.size w w' := by
  have HP : Hid (BareOk 34 op flag) := Lib.hid ⟨fun h => by omega, fun h => by omega, fun h => absurd h (by decide), fun h => by omega⟩
  go_enter Try.func16, Try.ntmps16
  go_wp2_with fail
  go_region
  go_wp2_with (first | (go_at_call 25; refine (identifier_any text hz _).mono ?_; rintro e w1 ⟨⟨r, rfl, -⟩, hb1⟩; have hbw : Below w.heap.size w w1 := below_step (Nat.le_refl _) (by go_grown) hb1; cases r) | (go_at_call 24; refine (points_any text hz _).mono ?_; rintro e w1 ⟨⟨r, rfl, -⟩, hb1⟩; have hbw : Below w.heap.size w w1 := below_step (Nat.le_refl _) (by go_grown) hb1; cases r))
  all_goals
    go_ret
    exact ⟨⟨_, rfl, fun h => by first | exact HP.out | cases h⟩, by first | exact hbw | go_grown⟩

set_option maxRecDepth 100000 in
set_option maxHeartbeats 1600000 in
theorem bare_18 (op flag size : Int) (text : ByteArray) (hz : text.size ≤ 4000) (w : World) :
    Calls Try.prog 16 #[.agg #[.int .i64 18, .int .i64 op, .string text, .int .i64 flag, .int .i64 size]] w fun e w' => Yes (BareOk 18 op flag) e ∧ Below w.heap.size w w' := by
  by_cases hok : flag = 0 ∨ flag = 1
  · have HP : Hid (BareOk 18 op flag) := Lib.hid ⟨fun h => by omega, fun h => by omega, fun _ => hok, fun h => by omega⟩
    clear hok
    go_enter Try.func16, Try.ntmps16
    go_wp2_with fail
    go_region
    go_wp2_with (first | (go_at_call 25; refine (identifier_any text hz _).mono ?_; rintro e w1 ⟨⟨r, rfl, -⟩, hb1⟩; have hbw : Below w.heap.size w w1 := below_step (Nat.le_refl _) (by go_grown) hb1; cases r) | (go_at_call 24; refine (points_any text hz _).mono ?_; rintro e w1 ⟨⟨r, rfl, -⟩, hb1⟩; have hbw : Below w.heap.size w w1 := below_step (Nat.le_refl _) (by go_grown) hb1; cases r))
    all_goals
      go_ret
      exact ⟨⟨_, rfl, fun h => by first | exact HP.out | cases h⟩, by first | exact hbw | go_grown⟩
  · have c1 : ¬ flag = 0 := fun h => hok (.inl h)
    have c2 : ¬ flag = 1 := fun h => hok (.inr h)
    clear hok
    go_enter Try.func16, Try.ntmps16
    go_wp2_with fail
    go_region
    go_wp2_with (first | (go_at_call 25; refine (identifier_any text hz _).mono ?_; rintro e w1 ⟨⟨r, rfl, -⟩, hb1⟩; have hbw : Below w.heap.size w w1 := below_step (Nat.le_refl _) (by go_grown) hb1; cases r) | (go_at_call 24; refine (points_any text hz _).mono ?_; rintro e w1 ⟨⟨r, rfl, -⟩, hb1⟩; have hbw : Below w.heap.size w w1 := below_step (Nat.le_refl _) (by go_grown) hb1; cases r))
    all_goals
      go_ret
      exact ⟨⟨_, rfl, fun h => by first | exact HP.out | cases h⟩, by first | exact hbw | go_grown⟩

set_option maxRecDepth 100000 in
set_option maxHeartbeats 1600000 in
theorem bare_25 (op flag size : Int) (text : ByteArray) (hz : text.size ≤ 4000) (w : World) :
    Calls Try.prog 16 #[.agg #[.int .i64 25, .int .i64 op, .string text, .int .i64 flag, .int .i64 size]] w fun e w' => Yes (BareOk 25 op flag) e ∧ Below w.heap.size w w' := by
  by_cases hok : flag = 0 ∨ flag = 1
  · have HP : Hid (BareOk 25 op flag) := Lib.hid ⟨fun h => by omega, fun h => by omega, fun _ => hok, fun h => by omega⟩
    clear hok
    go_enter Try.func16, Try.ntmps16
    go_wp2_with fail
    go_region
    go_wp2_with (first | (go_at_call 25; refine (identifier_any text hz _).mono ?_; rintro e w1 ⟨⟨r, rfl, -⟩, hb1⟩; have hbw : Below w.heap.size w w1 := below_step (Nat.le_refl _) (by go_grown) hb1; cases r) | (go_at_call 24; refine (points_any text hz _).mono ?_; rintro e w1 ⟨⟨r, rfl, -⟩, hb1⟩; have hbw : Below w.heap.size w w1 := below_step (Nat.le_refl _) (by go_grown) hb1; cases r))
    all_goals
      go_ret
      exact ⟨⟨_, rfl, fun h => by first | exact HP.out | cases h⟩, by first | exact hbw | go_grown⟩
  · have c1 : ¬ flag = 0 := fun h => hok (.inl h)
    have c2 : ¬ flag = 1 := fun h => hok (.inr h)
    clear hok
    go_enter Try.func16, Try.ntmps16
    go_wp2_with fail
    go_region
    go_wp2_with (first | (go_at_call 25; refine (identifier_any text hz _).mono ?_; rintro e w1 ⟨⟨r, rfl, -⟩, hb1⟩; have hbw : Below w.heap.size w w1 := below_step (Nat.le_refl _) (by go_grown) hb1; cases r) | (go_at_call 24; refine (points_any text hz _).mono ?_; rintro e w1 ⟨⟨r, rfl, -⟩, hb1⟩; have hbw : Below w.heap.size w w1 := below_step (Nat.le_refl _) (by go_grown) hb1; cases r))
    all_goals
      go_ret
      exact ⟨⟨_, rfl, fun h => by first | exact HP.out | cases h⟩, by first | exact hbw | go_grown⟩

set_option maxRecDepth 100000 in
set_option maxHeartbeats 1600000 in
theorem bare_37 (op flag size : Int) (text : ByteArray) (hz : text.size ≤ 4000) (w : World) :
    Calls Try.prog 16 #[.agg #[.int .i64 37, .int .i64 op, .string text, .int .i64 flag, .int .i64 size]] w fun e w' => Yes (BareOk 37 op flag) e ∧ Below w.heap.size w w' := by
  by_cases hok : flag = 0 ∨ flag = 1
  · have HP : Hid (BareOk 37 op flag) := Lib.hid ⟨fun h => by omega, fun h => by omega, fun _ => hok, fun h => by omega⟩
    clear hok
    go_enter Try.func16, Try.ntmps16
    go_wp2_with fail
    go_region
    go_wp2_with (first | (go_at_call 25; refine (identifier_any text hz _).mono ?_; rintro e w1 ⟨⟨r, rfl, -⟩, hb1⟩; have hbw : Below w.heap.size w w1 := below_step (Nat.le_refl _) (by go_grown) hb1; cases r) | (go_at_call 24; refine (points_any text hz _).mono ?_; rintro e w1 ⟨⟨r, rfl, -⟩, hb1⟩; have hbw : Below w.heap.size w w1 := below_step (Nat.le_refl _) (by go_grown) hb1; cases r))
    all_goals
      go_ret
      exact ⟨⟨_, rfl, fun h => by first | exact HP.out | cases h⟩, by first | exact hbw | go_grown⟩
  · have c1 : ¬ flag = 0 := fun h => hok (.inl h)
    have c2 : ¬ flag = 1 := fun h => hok (.inr h)
    clear hok
    go_enter Try.func16, Try.ntmps16
    go_wp2_with fail
    go_region
    go_wp2_with (first | (go_at_call 25; refine (identifier_any text hz _).mono ?_; rintro e w1 ⟨⟨r, rfl, -⟩, hb1⟩; have hbw : Below w.heap.size w w1 := below_step (Nat.le_refl _) (by go_grown) hb1; cases r) | (go_at_call 24; refine (points_any text hz _).mono ?_; rintro e w1 ⟨⟨r, rfl, -⟩, hb1⟩; have hbw : Below w.heap.size w w1 := below_step (Nat.le_refl _) (by go_grown) hb1; cases r))
    all_goals
      go_ret
      exact ⟨⟨_, rfl, fun h => by first | exact HP.out | cases h⟩, by first | exact hbw | go_grown⟩

set_option maxRecDepth 100000 in
set_option maxHeartbeats 1600000 in
theorem bare_22 (op flag size : Int) (text : ByteArray) (hz : text.size ≤ 4000) (w : World) :
    Calls Try.prog 16 #[.agg #[.int .i64 22, .int .i64 op, .string text, .int .i64 flag, .int .i64 size]] w fun e w' => Yes (BareOk 22 op flag) e ∧ Below w.heap.size w w' := by
  by_cases hok : 1 ≤ op ∧ op ≤ 4
  · have HP : Hid (BareOk 22 op flag) := Lib.hid ⟨fun h => by omega, fun h => by omega, fun h => absurd h (by decide), fun h => by omega⟩
    clear hok
    go_enter Try.func16, Try.ntmps16
    go_wp2_with fail
    go_region
    go_wp2_with (first | (go_at_call 25; refine (identifier_any text hz _).mono ?_; rintro e w1 ⟨⟨r, rfl, -⟩, hb1⟩; have hbw : Below w.heap.size w w1 := below_step (Nat.le_refl _) (by go_grown) hb1; cases r) | (go_at_call 24; refine (points_any text hz _).mono ?_; rintro e w1 ⟨⟨r, rfl, -⟩, hb1⟩; have hbw : Below w.heap.size w w1 := below_step (Nat.le_refl _) (by go_grown) hb1; cases r))
    all_goals
      go_ret
      exact ⟨⟨_, rfl, fun h => by first | exact HP.out | cases h⟩, by first | exact hbw | go_grown⟩
  · have hb2 : ¬ 1 ≤ op ∨ (1 ≤ op ∧ ¬ op ≤ 4) := by omega
    clear hok
    rcases hb2 with c1 | ⟨c1, c2⟩
    all_goals
      go_enter Try.func16, Try.ntmps16
      go_wp2_with fail
      go_region
      go_wp2_with (first | (go_at_call 25; refine (identifier_any text hz _).mono ?_; rintro e w1 ⟨⟨r, rfl, -⟩, hb1⟩; have hbw : Below w.heap.size w w1 := below_step (Nat.le_refl _) (by go_grown) hb1; cases r) | (go_at_call 24; refine (points_any text hz _).mono ?_; rintro e w1 ⟨⟨r, rfl, -⟩, hb1⟩; have hbw : Below w.heap.size w w1 := below_step (Nat.le_refl _) (by go_grown) hb1; cases r))
      all_goals
        go_ret
        exact ⟨⟨_, rfl, fun h => by first | exact HP.out | cases h⟩, by first | exact hbw | go_grown⟩

set_option maxRecDepth 100000 in
set_option maxHeartbeats 1600000 in
theorem bare_23 (op flag size : Int) (text : ByteArray) (hz : text.size ≤ 4000) (w : World) :
    Calls Try.prog 16 #[.agg #[.int .i64 23, .int .i64 op, .string text, .int .i64 flag, .int .i64 size]] w fun e w' => Yes (BareOk 23 op flag) e ∧ Below w.heap.size w w' := by
  by_cases hok : 1 ≤ op ∧ op ≤ 19
  · have HP : Hid (BareOk 23 op flag) := Lib.hid ⟨fun h => by omega, fun h => by omega, fun h => absurd h (by decide), fun h => by omega⟩
    clear hok
    go_enter Try.func16, Try.ntmps16
    go_wp2_with fail
    go_region
    go_wp2_with (first | (go_at_call 25; refine (identifier_any text hz _).mono ?_; rintro e w1 ⟨⟨r, rfl, -⟩, hb1⟩; have hbw : Below w.heap.size w w1 := below_step (Nat.le_refl _) (by go_grown) hb1; cases r) | (go_at_call 24; refine (points_any text hz _).mono ?_; rintro e w1 ⟨⟨r, rfl, -⟩, hb1⟩; have hbw : Below w.heap.size w w1 := below_step (Nat.le_refl _) (by go_grown) hb1; cases r))
    all_goals
      go_ret
      exact ⟨⟨_, rfl, fun h => by first | exact HP.out | cases h⟩, by first | exact hbw | go_grown⟩
  · have hb2 : ¬ 1 ≤ op ∨ (1 ≤ op ∧ ¬ op ≤ 19) := by omega
    clear hok
    rcases hb2 with c1 | ⟨c1, c2⟩
    all_goals
      go_enter Try.func16, Try.ntmps16
      go_wp2_with fail
      go_region
      go_wp2_with (first | (go_at_call 25; refine (identifier_any text hz _).mono ?_; rintro e w1 ⟨⟨r, rfl, -⟩, hb1⟩; have hbw : Below w.heap.size w w1 := below_step (Nat.le_refl _) (by go_grown) hb1; cases r) | (go_at_call 24; refine (points_any text hz _).mono ?_; rintro e w1 ⟨⟨r, rfl, -⟩, hb1⟩; have hbw : Below w.heap.size w w1 := below_step (Nat.le_refl _) (by go_grown) hb1; cases r))
      all_goals
        go_ret
        exact ⟨⟨_, rfl, fun h => by first | exact HP.out | cases h⟩, by first | exact hbw | go_grown⟩

set_option maxRecDepth 100000 in
set_option maxHeartbeats 1600000 in
theorem bare_35 (op flag size : Int) (text : ByteArray) (hz : text.size ≤ 4000) (w : World) :
    Calls Try.prog 16 #[.agg #[.int .i64 35, .int .i64 op, .string text, .int .i64 flag, .int .i64 size]] w fun e w' => Yes (BareOk 35 op flag) e ∧ Below w.heap.size w w' := by
  go_enter Try.func16, Try.ntmps16
  go_wp2_with fail
  go_region
  go_wp2_with (go_at_call 26; refine (fieldBare_yes 35 op flag size text hz _).mono ?_; rintro e w1 ⟨⟨r, rfl, hr⟩, hb1⟩; have hbw : Below w.heap.size w w1 := below_step (Nat.le_refl _) (by go_grown) hb1; have HR := Lib.hid hr; clear hr)
  go_ret
  exact ⟨⟨_, rfl, fun h => ⟨fun h => by omega, fun h => by omega, fun h => absurd h (by decide), fun _ => HR.out h⟩⟩, hbw⟩

set_option maxRecDepth 100000 in
set_option maxHeartbeats 1600000 in
theorem bare_4 (op flag size : Int) (text : ByteArray) (hz : text.size ≤ 4000) (w : World) :
    Calls Try.prog 16 #[.agg #[.int .i64 4, .int .i64 op, .string text, .int .i64 flag, .int .i64 size]] w fun e w' => Yes (BareOk 4 op flag) e ∧ Below w.heap.size w w' := by
  have HP : Hid (BareOk 4 op flag) := Lib.hid ⟨fun h => by omega, fun h => by omega, fun h => absurd h (by decide), fun h => by omega⟩
  by_cases hte : text.size = 0
  · obtain rfl := txt_empty hte
    clear hte
    go_enter Try.func16, Try.ntmps16
    go_wp2_with fail
    go_region
    go_wp2_with fail
    refine held_begin (S := fun w' => w'.cell? ⟨w.heap.size, 2, none⟩ = some (.string ⟨#[]⟩) ∧ w'.cell? ⟨w.heap.size, 3, none⟩ = some (.int .i64 flag)) 13 (by rfl) (by kernel_rfl) ?_ (fun hHeld => ?_)
    · exact ⟨cell_drew (cell_drew (cell_of_block (block_new w _) rfl)), cell_drew (cell_drew (cell_of_block (block_new w _) rfl))⟩
    refine held_take 0 (some 19) (v := ?_) rfl rfl (by kernel_rfl) (by kernel_rfl) (by kernel_rfl) (fun _ _ _ _ h => h) (by kernel_rfl) ?_ hHeld ?_
    rotate_left 1
    · intro w hSw; (try dsimp only at hSw); go_simp; (try with_reducible rfl)
    try simp only [List.foldl_cons, List.foldl_nil, List.length_cons, List.length_nil, Act.put, List.setIfInBounds_toArray, List.set_cons_zero, List.set_cons_succ]
    refine held_take 1 (some 20) (v := ?_) rfl rfl (by kernel_rfl) (by kernel_rfl) (by kernel_rfl) (fun _ _ _ _ h => h) (by kernel_rfl) ?_ hHeld ?_
    rotate_left 1
    · intro w hSw; (try dsimp only at hSw); go_simp; (try with_reducible rfl)
    try simp only [List.foldl_cons, List.foldl_nil, List.length_cons, List.length_nil, Act.put, List.setIfInBounds_toArray, List.set_cons_zero, List.set_cons_succ]
    refine held_take 2 (some 21) (v := ?_) rfl rfl (by kernel_rfl) (by kernel_rfl) (by kernel_rfl) (fun _ _ _ _ h => h) (by kernel_rfl) ?_ hHeld ?_
    rotate_left 1
    · intro w hSw; (try dsimp only at hSw); go_simp; (try with_reducible rfl)
    try simp only [List.foldl_cons, List.foldl_nil, List.length_cons, List.length_nil, Act.put, List.setIfInBounds_toArray, List.set_cons_zero, List.set_cons_succ]
    refine held_take 3 (some 22) (v := ?_) rfl rfl (by kernel_rfl) (by kernel_rfl) (by kernel_rfl) (fun _ _ _ _ h => h) (by kernel_rfl) ?_ hHeld ?_
    rotate_left 1
    · intro w hSw; (try dsimp only at hSw); go_simp; (try with_reducible rfl)
    try simp only [List.foldl_cons, List.foldl_nil, List.length_cons, List.length_nil, Act.put, List.setIfInBounds_toArray, List.set_cons_zero, List.set_cons_succ]
    refine held_skips (fuel := 2) (by kernel_rfl) (fun _ _ _ _ h => h) [(4, some 23), (5, some 24), (6, some 25), (7, some 26), (8, some 27), (9, some 28), (10, some 29)] (by kernel_rfl) hHeld ?_
    try simp only [List.foldl_cons, List.foldl_nil, List.length_cons, List.length_nil, Act.put, List.setIfInBounds_toArray, List.set_cons_zero, List.set_cons_succ]
    refine held_take 11 (some 30) (v := ?_) rfl rfl (by kernel_rfl) (by kernel_rfl) (by kernel_rfl) (fun _ _ _ _ h => h) (by kernel_rfl) ?_ hHeld ?_
    rotate_left 1
    · intro w hSw; (try dsimp only at hSw); go_simp; (try with_reducible rfl)
    try simp only [List.foldl_cons, List.foldl_nil, List.length_cons, List.length_nil, Act.put, List.setIfInBounds_toArray, List.set_cons_zero, List.set_cons_succ]
    refine held_take 12 (some 5) (v := ?_) rfl rfl (by kernel_rfl) (by kernel_rfl) (by kernel_rfl) (fun _ _ _ _ h => h) (by kernel_rfl) ?_ hHeld ?_
    rotate_left 1
    · intro w hSw; (try dsimp only at hSw); go_simp; (try with_reducible rfl)
    try simp only [List.foldl_cons, List.foldl_nil, List.length_cons, List.length_nil, Act.put, List.setIfInBounds_toArray, List.set_cons_zero, List.set_cons_succ]
    refine wpAnyH_done (by kernel_rfl) ?_ _
    go_wp2
    all_goals
      go_ret
      exact ⟨⟨_, rfl, fun h => by first | exact HP.out | cases h⟩, by first | exact hbw | go_grown⟩
  · have hre := txt_isEmpty hte
    clear hte
    go_enter Try.func16, Try.ntmps16
    go_wp2_with fail
    go_region
    go_wp2_with fail
    refine held_begin (S := fun w' => w'.cell? ⟨w.heap.size, 2, none⟩ = some (.string text) ∧ w'.cell? ⟨w.heap.size, 3, none⟩ = some (.int .i64 flag)) 13 (by rfl) (by kernel_rfl) ?_ (fun hHeld => ?_)
    · exact ⟨cell_drew (cell_drew (cell_of_block (block_new w _) rfl)), cell_drew (cell_drew (cell_of_block (block_new w _) rfl))⟩
    refine held_take 0 (some 19) (v := ?_) rfl rfl (by kernel_rfl) (by kernel_rfl) (by kernel_rfl) (fun _ _ _ _ h => h) (by kernel_rfl) ?_ hHeld ?_
    rotate_left 1
    · intro w hSw; (try dsimp only at hSw); go_simp; (try with_reducible rfl)
    try simp only [List.foldl_cons, List.foldl_nil, List.length_cons, List.length_nil, Act.put, List.setIfInBounds_toArray, List.set_cons_zero, List.set_cons_succ]
    refine held_take 1 (some 20) (v := ?_) rfl rfl (by kernel_rfl) (by kernel_rfl) (by kernel_rfl) (fun _ _ _ _ h => h) (by kernel_rfl) ?_ hHeld ?_
    rotate_left 1
    · intro w hSw; (try dsimp only at hSw); go_simp; (try with_reducible rfl)
    try simp only [List.foldl_cons, List.foldl_nil, List.length_cons, List.length_nil, Act.put, List.setIfInBounds_toArray, List.set_cons_zero, List.set_cons_succ]
    refine held_take 2 (some 21) (v := ?_) rfl rfl (by kernel_rfl) (by kernel_rfl) (by kernel_rfl) (fun _ _ _ _ h => h) (by kernel_rfl) ?_ hHeld ?_
    rotate_left 1
    · intro w hSw; (try dsimp only at hSw); go_simp; (try with_reducible rfl)
    try simp only [List.foldl_cons, List.foldl_nil, List.length_cons, List.length_nil, Act.put, List.setIfInBounds_toArray, List.set_cons_zero, List.set_cons_succ]
    refine held_take 3 (some 22) (v := ?_) rfl rfl (by kernel_rfl) (by kernel_rfl) (by kernel_rfl) (fun _ _ _ _ h => h) (by kernel_rfl) ?_ hHeld ?_
    rotate_left 1
    · intro w hSw; (try dsimp only at hSw); go_simp; (try with_reducible rfl)
    try simp only [List.foldl_cons, List.foldl_nil, List.length_cons, List.length_nil, Act.put, List.setIfInBounds_toArray, List.set_cons_zero, List.set_cons_succ]
    refine held_take 4 (some 23) (v := ?_) rfl rfl (by kernel_rfl) (by kernel_rfl) (by kernel_rfl) (fun _ _ _ _ h => h) (by kernel_rfl) ?_ hHeld ?_
    rotate_left 1
    · intro w hSw; (try dsimp only at hSw); go_simp; (try with_reducible rfl)
    try simp only [List.foldl_cons, List.foldl_nil, List.length_cons, List.length_nil, Act.put, List.setIfInBounds_toArray, List.set_cons_zero, List.set_cons_succ]
    refine held_take 5 (some 24) (v := ?_) rfl rfl (by kernel_rfl) (by kernel_rfl) (by kernel_rfl) (fun _ _ _ _ h => h) (by kernel_rfl) ?_ hHeld ?_
    rotate_left 1
    · intro w hSw; (try dsimp only at hSw); go_simp; (try with_reducible rfl)
    try simp only [List.foldl_cons, List.foldl_nil, List.length_cons, List.length_nil, Act.put, List.setIfInBounds_toArray, List.set_cons_zero, List.set_cons_succ]
    refine held_take 7 (some 26) (v := ?_) rfl rfl (by kernel_rfl) (by kernel_rfl) (by kernel_rfl) (fun _ _ _ _ h => h) (by kernel_rfl) ?_ hHeld ?_
    rotate_left 1
    · intro w hSw; (try dsimp only at hSw); go_simp; (try with_reducible rfl)
    try simp only [List.foldl_cons, List.foldl_nil, List.length_cons, List.length_nil, Act.put, List.setIfInBounds_toArray, List.set_cons_zero, List.set_cons_succ]
    refine held_take 8 (some 27) (v := ?_) rfl rfl (by kernel_rfl) (by kernel_rfl) (by kernel_rfl) (fun _ _ _ _ h => h) (by kernel_rfl) ?_ hHeld ?_
    rotate_left 1
    · intro w hSw; (try dsimp only at hSw); go_simp; (try with_reducible rfl)
    try simp only [List.foldl_cons, List.foldl_nil, List.length_cons, List.length_nil, Act.put, List.setIfInBounds_toArray, List.set_cons_zero, List.set_cons_succ]
    refine held_take 9 (some 28) (v := ?_) rfl rfl (by kernel_rfl) (by kernel_rfl) (by kernel_rfl) (fun _ _ _ _ h => h) (by kernel_rfl) ?_ hHeld ?_
    rotate_left 1
    · intro w hSw; (try dsimp only at hSw); go_simp; (try with_reducible rfl)
    try simp only [List.foldl_cons, List.foldl_nil, List.length_cons, List.length_nil, Act.put, List.setIfInBounds_toArray, List.set_cons_zero, List.set_cons_succ]
    refine wpAnyH_ready (rs := [6]) (by kernel_rfl) (by simp) ?_
    refine AllReadyH.cons rfl (fun K hK => ?_) AllReadyH.nil
    go_simp
    (go_at_call 23; refine (number_any text hz _).mono ?_; rintro e w1 ⟨⟨q, rfl⟩, rfl⟩)
    go_wp2_with fail
    have hOld := hHeld
    clear hHeld
    refine hK.out _ _ ?_ (fun hHeld => ?_)
    · exact hOld
    clear hK K hOld
    try simp only [List.foldl_cons, List.foldl_nil, List.length_cons, List.length_nil, Act.put, List.setIfInBounds_toArray, List.set_cons_zero, List.set_cons_succ]
    refine held_take 10 (some 29) (v := ?_) rfl rfl (by kernel_rfl) (by kernel_rfl) (by kernel_rfl) (fun _ _ _ _ h => h) (by kernel_rfl) ?_ hHeld ?_
    rotate_left 1
    · intro w hSw; (try dsimp only at hSw); go_simp; (try with_reducible rfl)
    try simp only [List.foldl_cons, List.foldl_nil, List.length_cons, List.length_nil, Act.put, List.setIfInBounds_toArray, List.set_cons_zero, List.set_cons_succ]
    refine held_take 11 (some 30) (v := ?_) rfl rfl (by kernel_rfl) (by kernel_rfl) (by kernel_rfl) (fun _ _ _ _ h => h) (by kernel_rfl) ?_ hHeld ?_
    rotate_left 1
    · intro w hSw; (try dsimp only at hSw); go_simp; (try with_reducible rfl)
    try simp only [List.foldl_cons, List.foldl_nil, List.length_cons, List.length_nil, Act.put, List.setIfInBounds_toArray, List.set_cons_zero, List.set_cons_succ]
    refine held_take 12 (some 5) (v := ?_) rfl rfl (by kernel_rfl) (by kernel_rfl) (by kernel_rfl) (fun _ _ _ _ h => h) (by kernel_rfl) ?_ hHeld ?_
    rotate_left 1
    · intro w hSw; (try dsimp only at hSw); go_simp; (try with_reducible rfl)
    try simp only [List.foldl_cons, List.foldl_nil, List.length_cons, List.length_nil, Act.put, List.setIfInBounds_toArray, List.set_cons_zero, List.set_cons_succ]
    refine wpAnyH_done (by kernel_rfl) ?_ _
    go_wp2
    all_goals
      go_ret
      exact ⟨⟨_, rfl, fun h => by first | exact HP.out | cases h⟩, by first | exact hbw | go_grown⟩

set_option maxRecDepth 100000 in
set_option maxHeartbeats 1600000 in
theorem bare_32 (op flag size : Int) (text : ByteArray) (hz : text.size ≤ 4000) (w : World) :
    Calls Try.prog 16 #[.agg #[.int .i64 32, .int .i64 op, .string text, .int .i64 flag, .int .i64 size]] w fun e w' => Yes (BareOk 32 op flag) e ∧ Below w.heap.size w w' := by
  have hfl : flag = 0 ∨ flag = 1 ∨ (¬ flag = 0 ∧ ¬ flag = 1) := by omega
  rcases hfl with rfl | rfl | ⟨c1, c2⟩
  · have HP : Hid (BareOk 32 op 0) := Lib.hid ⟨fun h => by omega, fun h => by omega, fun _ => by omega, fun h => by omega⟩
    go_enter Try.func16, Try.ntmps16
    go_wp2_with fail
    go_region
    go_wp2_with fail
    refine held_begin (S := fun w' => w'.cell? ⟨w.heap.size, 2, none⟩ = some (.string text) ∧ w'.cell? ⟨w.heap.size, 3, none⟩ = some (.int .i64 0)) 13 (by rfl) (by kernel_rfl) ?_ (fun hHeld => ?_)
    · exact ⟨cell_drew (cell_drew (cell_of_block (block_new w _) rfl)), cell_drew (cell_drew (cell_of_block (block_new w _) rfl))⟩
    refine held_take 0 (some 63) (v := ?_) rfl rfl (by kernel_rfl) (by kernel_rfl) (by kernel_rfl) (fun _ _ _ _ h => h) (by kernel_rfl) ?_ hHeld ?_
    rotate_left 1
    · intro w hSw; (try dsimp only at hSw); go_simp; (try with_reducible rfl)
    try simp only [List.foldl_cons, List.foldl_nil, List.length_cons, List.length_nil, Act.put, List.setIfInBounds_toArray, List.set_cons_zero, List.set_cons_succ]
    refine held_take 1 (some 64) (v := ?_) rfl rfl (by kernel_rfl) (by kernel_rfl) (by kernel_rfl) (fun _ _ _ _ h => h) (by kernel_rfl) ?_ hHeld ?_
    rotate_left 1
    · intro w hSw; (try dsimp only at hSw); go_simp; (try with_reducible rfl)
    try simp only [List.foldl_cons, List.foldl_nil, List.length_cons, List.length_nil, Act.put, List.setIfInBounds_toArray, List.set_cons_zero, List.set_cons_succ]
    refine held_take 3 (some 66) (v := ?_) rfl rfl (by kernel_rfl) (by kernel_rfl) (by kernel_rfl) (fun _ _ _ _ h => h) (by kernel_rfl) ?_ hHeld ?_
    rotate_left 1
    · intro w hSw; (try dsimp only at hSw); go_simp; (try with_reducible rfl)
    try simp only [List.foldl_cons, List.foldl_nil, List.length_cons, List.length_nil, Act.put, List.setIfInBounds_toArray, List.set_cons_zero, List.set_cons_succ]
    refine held_take 4 (some 67) (v := ?_) rfl rfl (by kernel_rfl) (by kernel_rfl) (by kernel_rfl) (fun _ _ _ _ h => h) (by kernel_rfl) ?_ hHeld ?_
    rotate_left 1
    · intro w hSw; (try dsimp only at hSw); go_simp; (try with_reducible rfl)
    try simp only [List.foldl_cons, List.foldl_nil, List.length_cons, List.length_nil, Act.put, List.setIfInBounds_toArray, List.set_cons_zero, List.set_cons_succ]
    refine held_take 5 (some 68) (v := ?_) rfl rfl (by kernel_rfl) (by kernel_rfl) (by kernel_rfl) (fun _ _ _ _ h => h) (by kernel_rfl) ?_ hHeld ?_
    rotate_left 1
    · intro w hSw; (try dsimp only at hSw); go_simp; (try with_reducible rfl)
    try simp only [List.foldl_cons, List.foldl_nil, List.length_cons, List.length_nil, Act.put, List.setIfInBounds_toArray, List.set_cons_zero, List.set_cons_succ]
    refine wpAnyH_ready (rs := [2]) (by kernel_rfl) (by simp) ?_
    refine AllReadyH.cons rfl (fun K hK => ?_) AllReadyH.nil
    go_simp
    (go_at_call 25; refine (identifier_any text hz _).mono ?_; rintro e w1 ⟨⟨r, rfl, -⟩, hb1⟩; have hbw : Below w.heap.size w w1 := below_step (Nat.le_refl _) (by go_grown) hb1)
    go_wp2_with fail
    have hOld := hHeld
    clear hHeld
    refine hK.out _ _ ?_ (fun hHeld => ?_)
    · exact ⟨cell_later hb1 hOld.1, cell_later hb1 hOld.2⟩
    clear hK K hOld
    try simp only [List.foldl_cons, List.foldl_nil, List.length_cons, List.length_nil, Act.put, List.setIfInBounds_toArray, List.set_cons_zero, List.set_cons_succ]
    refine held_take 6 (some 69) (v := ?_) rfl rfl (by kernel_rfl) (by kernel_rfl) (by kernel_rfl) (fun _ _ _ _ h => h) (by kernel_rfl) ?_ hHeld ?_
    rotate_left 1
    · intro w hSw; (try dsimp only at hSw); go_simp; (try with_reducible rfl)
    try simp only [List.foldl_cons, List.foldl_nil, List.length_cons, List.length_nil, Act.put, List.setIfInBounds_toArray, List.set_cons_zero, List.set_cons_succ]
    refine held_skips (fuel := 3) (by kernel_rfl) (fun _ _ _ _ h => h) [(7, some 70), (8, some 71), (9, some 72)] (by kernel_rfl) hHeld ?_
    try simp only [List.foldl_cons, List.foldl_nil, List.length_cons, List.length_nil, Act.put, List.setIfInBounds_toArray, List.set_cons_zero, List.set_cons_succ]
    refine held_take 10 (some 73) (v := ?_) rfl rfl (by kernel_rfl) (by kernel_rfl) (by kernel_rfl) (fun _ _ _ _ h => h) (by kernel_rfl) ?_ hHeld ?_
    rotate_left 1
    · intro w hSw; (try dsimp only at hSw); go_simp; (try with_reducible rfl)
    try simp only [List.foldl_cons, List.foldl_nil, List.length_cons, List.length_nil, Act.put, List.setIfInBounds_toArray, List.set_cons_zero, List.set_cons_succ]
    refine held_take 11 (some 5) (v := ?_) rfl rfl (by kernel_rfl) (by kernel_rfl) (by kernel_rfl) (fun _ _ _ _ h => h) (by kernel_rfl) ?_ hHeld ?_
    rotate_left 1
    · intro w hSw; (try dsimp only at hSw); go_simp; (try with_reducible rfl)
    try simp only [List.foldl_cons, List.foldl_nil, List.length_cons, List.length_nil, Act.put, List.setIfInBounds_toArray, List.set_cons_zero, List.set_cons_succ]
    refine held_take 12 (some 3) (v := ?_) rfl rfl (by kernel_rfl) (by kernel_rfl) (by kernel_rfl) (fun _ _ _ _ h => h) (by kernel_rfl) ?_ hHeld ?_
    rotate_left 1
    · intro w hSw; (try dsimp only at hSw); go_simp; (try with_reducible rfl)
    try simp only [List.foldl_cons, List.foldl_nil, List.length_cons, List.length_nil, Act.put, List.setIfInBounds_toArray, List.set_cons_zero, List.set_cons_succ]
    refine wpAnyH_done (by kernel_rfl) ?_ _
    go_wp2
    all_goals
      go_ret
      exact ⟨⟨_, rfl, fun h => by first | exact HP.out | cases h⟩, by first | exact hbw | go_grown⟩
  · have HP : Hid (BareOk 32 op 1) := Lib.hid ⟨fun h => by omega, fun h => by omega, fun _ => by omega, fun h => by omega⟩
    go_enter Try.func16, Try.ntmps16
    go_wp2_with fail
    go_region
    go_wp2_with fail
    refine held_begin (S := fun w' => w'.cell? ⟨w.heap.size, 2, none⟩ = some (.string text) ∧ w'.cell? ⟨w.heap.size, 3, none⟩ = some (.int .i64 1)) 13 (by rfl) (by kernel_rfl) ?_ (fun hHeld => ?_)
    · exact ⟨cell_drew (cell_drew (cell_of_block (block_new w _) rfl)), cell_drew (cell_drew (cell_of_block (block_new w _) rfl))⟩
    refine held_take 0 (some 63) (v := ?_) rfl rfl (by kernel_rfl) (by kernel_rfl) (by kernel_rfl) (fun _ _ _ _ h => h) (by kernel_rfl) ?_ hHeld ?_
    rotate_left 1
    · intro w hSw; (try dsimp only at hSw); go_simp; (try with_reducible rfl)
    try simp only [List.foldl_cons, List.foldl_nil, List.length_cons, List.length_nil, Act.put, List.setIfInBounds_toArray, List.set_cons_zero, List.set_cons_succ]
    refine held_take 1 (some 64) (v := ?_) rfl rfl (by kernel_rfl) (by kernel_rfl) (by kernel_rfl) (fun _ _ _ _ h => h) (by kernel_rfl) ?_ hHeld ?_
    rotate_left 1
    · intro w hSw; (try dsimp only at hSw); go_simp; (try with_reducible rfl)
    try simp only [List.foldl_cons, List.foldl_nil, List.length_cons, List.length_nil, Act.put, List.setIfInBounds_toArray, List.set_cons_zero, List.set_cons_succ]
    refine held_take 3 (some 66) (v := ?_) rfl rfl (by kernel_rfl) (by kernel_rfl) (by kernel_rfl) (fun _ _ _ _ h => h) (by kernel_rfl) ?_ hHeld ?_
    rotate_left 1
    · intro w hSw; (try dsimp only at hSw); go_simp; (try with_reducible rfl)
    try simp only [List.foldl_cons, List.foldl_nil, List.length_cons, List.length_nil, Act.put, List.setIfInBounds_toArray, List.set_cons_zero, List.set_cons_succ]
    refine held_take 4 (some 67) (v := ?_) rfl rfl (by kernel_rfl) (by kernel_rfl) (by kernel_rfl) (fun _ _ _ _ h => h) (by kernel_rfl) ?_ hHeld ?_
    rotate_left 1
    · intro w hSw; (try dsimp only at hSw); go_simp; (try with_reducible rfl)
    try simp only [List.foldl_cons, List.foldl_nil, List.length_cons, List.length_nil, Act.put, List.setIfInBounds_toArray, List.set_cons_zero, List.set_cons_succ]
    refine held_take 5 (some 68) (v := ?_) rfl rfl (by kernel_rfl) (by kernel_rfl) (by kernel_rfl) (fun _ _ _ _ h => h) (by kernel_rfl) ?_ hHeld ?_
    rotate_left 1
    · intro w hSw; (try dsimp only at hSw); go_simp; (try with_reducible rfl)
    try simp only [List.foldl_cons, List.foldl_nil, List.length_cons, List.length_nil, Act.put, List.setIfInBounds_toArray, List.set_cons_zero, List.set_cons_succ]
    refine wpAnyH_ready (rs := [2]) (by kernel_rfl) (by simp) ?_
    refine AllReadyH.cons rfl (fun K hK => ?_) AllReadyH.nil
    go_simp
    (go_at_call 25; refine (identifier_any text hz _).mono ?_; rintro e w1 ⟨⟨r, rfl, -⟩, hb1⟩; have hbw : Below w.heap.size w w1 := below_step (Nat.le_refl _) (by go_grown) hb1)
    go_wp2_with fail
    have hOld := hHeld
    clear hHeld
    refine hK.out _ _ ?_ (fun hHeld => ?_)
    · exact ⟨cell_later hb1 hOld.1, cell_later hb1 hOld.2⟩
    clear hK K hOld
    try simp only [List.foldl_cons, List.foldl_nil, List.length_cons, List.length_nil, Act.put, List.setIfInBounds_toArray, List.set_cons_zero, List.set_cons_succ]
    refine held_take 6 (some 69) (v := ?_) rfl rfl (by kernel_rfl) (by kernel_rfl) (by kernel_rfl) (fun _ _ _ _ h => h) (by kernel_rfl) ?_ hHeld ?_
    rotate_left 1
    · intro w hSw; (try dsimp only at hSw); go_simp; (try with_reducible rfl)
    try simp only [List.foldl_cons, List.foldl_nil, List.length_cons, List.length_nil, Act.put, List.setIfInBounds_toArray, List.set_cons_zero, List.set_cons_succ]
    refine held_take 7 (some 70) (v := ?_) rfl rfl (by kernel_rfl) (by kernel_rfl) (by kernel_rfl) (fun _ _ _ _ h => h) (by kernel_rfl) ?_ hHeld ?_
    rotate_left 1
    · intro w hSw; (try dsimp only at hSw); go_simp; (try with_reducible rfl)
    try simp only [List.foldl_cons, List.foldl_nil, List.length_cons, List.length_nil, Act.put, List.setIfInBounds_toArray, List.set_cons_zero, List.set_cons_succ]
    refine held_take 8 (some 71) (v := ?_) rfl rfl (by kernel_rfl) (by kernel_rfl) (by kernel_rfl) (fun _ _ _ _ h => h) (by kernel_rfl) ?_ hHeld ?_
    rotate_left 1
    · intro w hSw; (try dsimp only at hSw); go_simp; (try with_reducible rfl)
    try simp only [List.foldl_cons, List.foldl_nil, List.length_cons, List.length_nil, Act.put, List.setIfInBounds_toArray, List.set_cons_zero, List.set_cons_succ]
    refine held_take 9 (some 72) (v := ?_) rfl rfl (by kernel_rfl) (by kernel_rfl) (by kernel_rfl) (fun _ _ _ _ h => h) (by kernel_rfl) ?_ hHeld ?_
    rotate_left 1
    · intro w hSw; (try dsimp only at hSw); go_simp; (try with_reducible rfl)
    try simp only [List.foldl_cons, List.foldl_nil, List.length_cons, List.length_nil, Act.put, List.setIfInBounds_toArray, List.set_cons_zero, List.set_cons_succ]
    refine held_take 10 (some 73) (v := ?_) rfl rfl (by kernel_rfl) (by kernel_rfl) (by kernel_rfl) (fun _ _ _ _ h => h) (by kernel_rfl) ?_ hHeld ?_
    rotate_left 1
    · intro w hSw; (try dsimp only at hSw); go_simp; (try with_reducible rfl)
    try simp only [List.foldl_cons, List.foldl_nil, List.length_cons, List.length_nil, Act.put, List.setIfInBounds_toArray, List.set_cons_zero, List.set_cons_succ]
    refine held_take 11 (some 5) (v := ?_) rfl rfl (by kernel_rfl) (by kernel_rfl) (by kernel_rfl) (fun _ _ _ _ h => h) (by kernel_rfl) ?_ hHeld ?_
    rotate_left 1
    · intro w hSw; (try dsimp only at hSw); go_simp; (try with_reducible rfl)
    try simp only [List.foldl_cons, List.foldl_nil, List.length_cons, List.length_nil, Act.put, List.setIfInBounds_toArray, List.set_cons_zero, List.set_cons_succ]
    refine held_take 12 (some 3) (v := ?_) rfl rfl (by kernel_rfl) (by kernel_rfl) (by kernel_rfl) (fun _ _ _ _ h => h) (by kernel_rfl) ?_ hHeld ?_
    rotate_left 1
    · intro w hSw; (try dsimp only at hSw); go_simp; (try with_reducible rfl)
    try simp only [List.foldl_cons, List.foldl_nil, List.length_cons, List.length_nil, Act.put, List.setIfInBounds_toArray, List.set_cons_zero, List.set_cons_succ]
    refine wpAnyH_done (by kernel_rfl) ?_ _
    go_wp2
    all_goals
      go_ret
      exact ⟨⟨_, rfl, fun h => by first | exact HP.out | cases h⟩, by first | exact hbw | go_grown⟩
  · have d1 : (flag == 0) = false := by simpa using c1
    have d2 : (flag == 1) = false := by simpa using c2
    go_enter Try.func16, Try.ntmps16
    go_wp2_with fail
    go_region
    go_wp2_with fail
    refine held_begin (S := fun w' => w'.cell? ⟨w.heap.size, 2, none⟩ = some (.string text) ∧ w'.cell? ⟨w.heap.size, 3, none⟩ = some (.int .i64 flag)) 13 (by rfl) (by kernel_rfl) ?_ (fun hHeld => ?_)
    · exact ⟨cell_drew (cell_drew (cell_of_block (block_new w _) rfl)), cell_drew (cell_drew (cell_of_block (block_new w _) rfl))⟩
    refine held_take 0 (some 63) (v := ?_) rfl rfl (by kernel_rfl) (by kernel_rfl) (by kernel_rfl) (fun _ _ _ _ h => h) (by kernel_rfl) ?_ hHeld ?_
    rotate_left 1
    · intro w hSw; (try dsimp only at hSw); go_simp; (try with_reducible rfl)
    try simp only [List.foldl_cons, List.foldl_nil, List.length_cons, List.length_nil, Act.put, List.setIfInBounds_toArray, List.set_cons_zero, List.set_cons_succ]
    refine held_take 1 (some 64) (v := ?_) rfl rfl (by kernel_rfl) (by kernel_rfl) (by kernel_rfl) (fun _ _ _ _ h => h) (by kernel_rfl) ?_ hHeld ?_
    rotate_left 1
    · intro w hSw; (try dsimp only at hSw); go_simp; (try with_reducible rfl)
    try simp only [List.foldl_cons, List.foldl_nil, List.length_cons, List.length_nil, Act.put, List.setIfInBounds_toArray, List.set_cons_zero, List.set_cons_succ]
    refine held_take 3 (some 66) (v := ?_) rfl rfl (by kernel_rfl) (by kernel_rfl) (by kernel_rfl) (fun _ _ _ _ h => h) (by kernel_rfl) ?_ hHeld ?_
    rotate_left 1
    · intro w hSw; (try dsimp only at hSw); go_simp; (try with_reducible rfl)
    try simp only [List.foldl_cons, List.foldl_nil, List.length_cons, List.length_nil, Act.put, List.setIfInBounds_toArray, List.set_cons_zero, List.set_cons_succ]
    refine held_take 4 (some 67) (v := ?_) rfl rfl (by kernel_rfl) (by kernel_rfl) (by kernel_rfl) (fun _ _ _ _ h => h) (by kernel_rfl) ?_ hHeld ?_
    rotate_left 1
    · intro w hSw; (try dsimp only at hSw); go_simp; (try with_reducible rfl)
    try simp only [List.foldl_cons, List.foldl_nil, List.length_cons, List.length_nil, Act.put, List.setIfInBounds_toArray, List.set_cons_zero, List.set_cons_succ]
    refine held_take 5 (some 68) (v := ?_) rfl rfl (by kernel_rfl) (by kernel_rfl) (by kernel_rfl) (fun _ _ _ _ h => h) (by kernel_rfl) ?_ hHeld ?_
    rotate_left 1
    · intro w hSw; (try dsimp only at hSw); go_simp; (try with_reducible rfl)
    try simp only [List.foldl_cons, List.foldl_nil, List.length_cons, List.length_nil, Act.put, List.setIfInBounds_toArray, List.set_cons_zero, List.set_cons_succ]
    refine wpAnyH_ready (rs := [2]) (by kernel_rfl) (by simp) ?_
    refine AllReadyH.cons rfl (fun K hK => ?_) AllReadyH.nil
    go_simp
    (go_at_call 25; refine (identifier_any text hz _).mono ?_; rintro e w1 ⟨⟨r, rfl, -⟩, hb1⟩; have hbw : Below w.heap.size w w1 := below_step (Nat.le_refl _) (by go_grown) hb1)
    go_wp2_with fail
    have hOld := hHeld
    clear hHeld
    refine hK.out _ _ ?_ (fun hHeld => ?_)
    · exact ⟨cell_later hb1 hOld.1, cell_later hb1 hOld.2⟩
    clear hK K hOld
    try simp only [List.foldl_cons, List.foldl_nil, List.length_cons, List.length_nil, Act.put, List.setIfInBounds_toArray, List.set_cons_zero, List.set_cons_succ]
    refine held_take 6 (some 69) (v := ?_) rfl rfl (by kernel_rfl) (by kernel_rfl) (by kernel_rfl) (fun _ _ _ _ h => h) (by kernel_rfl) ?_ hHeld ?_
    rotate_left 1
    · intro w hSw; (try dsimp only at hSw); go_simp; (try with_reducible rfl)
    try simp only [List.foldl_cons, List.foldl_nil, List.length_cons, List.length_nil, Act.put, List.setIfInBounds_toArray, List.set_cons_zero, List.set_cons_succ]
    refine held_take 7 (some 70) (v := ?_) rfl rfl (by kernel_rfl) (by kernel_rfl) (by kernel_rfl) (fun _ _ _ _ h => h) (by kernel_rfl) ?_ hHeld ?_
    rotate_left 1
    · intro w hSw; (try dsimp only at hSw); go_simp; (try with_reducible rfl)
    try simp only [List.foldl_cons, List.foldl_nil, List.length_cons, List.length_nil, Act.put, List.setIfInBounds_toArray, List.set_cons_zero, List.set_cons_succ]
    refine held_take 8 (some 71) (v := ?_) rfl rfl (by kernel_rfl) (by kernel_rfl) (by kernel_rfl) (fun _ _ _ _ h => h) (by kernel_rfl) ?_ hHeld ?_
    rotate_left 1
    · intro w hSw; (try dsimp only at hSw); go_simp; (try with_reducible rfl)
    try simp only [List.foldl_cons, List.foldl_nil, List.length_cons, List.length_nil, Act.put, List.setIfInBounds_toArray, List.set_cons_zero, List.set_cons_succ]
    refine held_take 9 (some 72) (v := ?_) rfl rfl (by kernel_rfl) (by kernel_rfl) (by kernel_rfl) (fun _ _ _ _ h => h) (by kernel_rfl) ?_ hHeld ?_
    rotate_left 1
    · intro w hSw; (try dsimp only at hSw); go_simp; (try with_reducible rfl)
    try simp only [List.foldl_cons, List.foldl_nil, List.length_cons, List.length_nil, Act.put, List.setIfInBounds_toArray, List.set_cons_zero, List.set_cons_succ]
    refine held_take 10 (some 73) (v := ?_) rfl rfl (by kernel_rfl) (by kernel_rfl) (by kernel_rfl) (fun _ _ _ _ h => h) (by kernel_rfl) ?_ hHeld ?_
    rotate_left 1
    · intro w hSw; (try dsimp only at hSw); go_simp; (try with_reducible rfl)
    try simp only [List.foldl_cons, List.foldl_nil, List.length_cons, List.length_nil, Act.put, List.setIfInBounds_toArray, List.set_cons_zero, List.set_cons_succ]
    refine held_take 11 (some 5) (v := ?_) rfl rfl (by kernel_rfl) (by kernel_rfl) (by kernel_rfl) (fun _ _ _ _ h => h) (by kernel_rfl) ?_ hHeld ?_
    rotate_left 1
    · intro w hSw; (try dsimp only at hSw); go_simp; (try with_reducible rfl)
    try simp only [List.foldl_cons, List.foldl_nil, List.length_cons, List.length_nil, Act.put, List.setIfInBounds_toArray, List.set_cons_zero, List.set_cons_succ]
    refine held_take 12 (some 3) (v := ?_) rfl rfl (by kernel_rfl) (by kernel_rfl) (by kernel_rfl) (fun _ _ _ _ h => h) (by kernel_rfl) ?_ hHeld ?_
    rotate_left 1
    · intro w hSw; (try dsimp only at hSw); go_simp; (try with_reducible rfl)
    try simp only [List.foldl_cons, List.foldl_nil, List.length_cons, List.length_nil, Act.put, List.setIfInBounds_toArray, List.set_cons_zero, List.set_cons_succ]
    refine wpAnyH_done (by kernel_rfl) ?_ _
    go_wp2
    all_goals
      go_ret
      exact ⟨⟨_, rfl, fun h => by first | cases h | cases h⟩, by first | exact hbw | go_grown⟩

set_option maxRecDepth 100000 in
set_option maxHeartbeats 1600000 in
theorem bare_9 (op flag size : Int) (text : ByteArray) (hz : text.size ≤ 4000) (w : World) :
    Calls Try.prog 16 #[.agg #[.int .i64 9, .int .i64 op, .string text, .int .i64 flag, .int .i64 size]] w fun e w' => Yes (BareOk 9 op flag) e ∧ Below w.heap.size w w' := by
  have hfl : flag = 0 ∨ flag = 1 ∨ (¬ flag = 0 ∧ ¬ flag = 1) := by omega
  rcases hfl with rfl | rfl | ⟨c1, c2⟩
  · have HP : Hid (BareOk 9 op 0) := Lib.hid ⟨fun h => by omega, fun h => by omega, fun _ => by omega, fun h => by omega⟩
    by_cases hte : text.size = 0
    · obtain rfl := txt_empty hte
      clear hte
      go_enter Try.func16, Try.ntmps16
      go_wp2_with fail
      go_region
      go_wp2_with fail
      refine held_begin (S := fun w' => w'.cell? ⟨w.heap.size, 2, none⟩ = some (.string ⟨#[]⟩) ∧ w'.cell? ⟨w.heap.size, 3, none⟩ = some (.int .i64 0)) 28 (by rfl) (by kernel_rfl) ?_ (fun hHeld => ?_)
      · exact ⟨cell_drew (cell_drew (cell_of_block (block_new w _) rfl)), cell_drew (cell_drew (cell_of_block (block_new w _) rfl))⟩
      refine held_take 0 (some 86) (v := ?_) rfl rfl (by kernel_rfl) (by kernel_rfl) (by kernel_rfl) (fun _ _ _ _ h => h) (by kernel_rfl) ?_ hHeld ?_
      rotate_left 1
      · intro w hSw; (try dsimp only at hSw); go_simp; (try with_reducible rfl)
      try simp only [List.foldl_cons, List.foldl_nil, List.length_cons, List.length_nil, Act.put, List.setIfInBounds_toArray, List.set_cons_zero, List.set_cons_succ]
      refine held_take 1 (some 87) (v := ?_) rfl rfl (by kernel_rfl) (by kernel_rfl) (by kernel_rfl) (fun _ _ _ _ h => h) (by kernel_rfl) ?_ hHeld ?_
      rotate_left 1
      · intro w hSw; (try dsimp only at hSw); go_simp; (try with_reducible rfl)
      try simp only [List.foldl_cons, List.foldl_nil, List.length_cons, List.length_nil, Act.put, List.setIfInBounds_toArray, List.set_cons_zero, List.set_cons_succ]
      refine held_take 2 (some 88) (v := ?_) rfl rfl (by kernel_rfl) (by kernel_rfl) (by kernel_rfl) (fun _ _ _ _ h => h) (by kernel_rfl) ?_ hHeld ?_
      rotate_left 1
      · intro w hSw; (try dsimp only at hSw); go_simp; (try with_reducible rfl)
      try simp only [List.foldl_cons, List.foldl_nil, List.length_cons, List.length_nil, Act.put, List.setIfInBounds_toArray, List.set_cons_zero, List.set_cons_succ]
      refine held_take 3 (some 89) (v := ?_) rfl rfl (by kernel_rfl) (by kernel_rfl) (by kernel_rfl) (fun _ _ _ _ h => h) (by kernel_rfl) ?_ hHeld ?_
      rotate_left 1
      · intro w hSw; (try dsimp only at hSw); go_simp; (try with_reducible rfl)
      try simp only [List.foldl_cons, List.foldl_nil, List.length_cons, List.length_nil, Act.put, List.setIfInBounds_toArray, List.set_cons_zero, List.set_cons_succ]
      refine held_take 4 (some 90) (v := ?_) rfl rfl (by kernel_rfl) (by kernel_rfl) (by kernel_rfl) (fun _ _ _ _ h => h) (by kernel_rfl) ?_ hHeld ?_
      rotate_left 1
      · intro w hSw; (try dsimp only at hSw); go_simp; (try with_reducible rfl)
      try simp only [List.foldl_cons, List.foldl_nil, List.length_cons, List.length_nil, Act.put, List.setIfInBounds_toArray, List.set_cons_zero, List.set_cons_succ]
      refine held_take 5 (some 91) (v := ?_) rfl rfl (by kernel_rfl) (by kernel_rfl) (by kernel_rfl) (fun _ _ _ _ h => h) (by kernel_rfl) ?_ hHeld ?_
      rotate_left 1
      · intro w hSw; (try dsimp only at hSw); go_simp; (try with_reducible rfl)
      try simp only [List.foldl_cons, List.foldl_nil, List.length_cons, List.length_nil, Act.put, List.setIfInBounds_toArray, List.set_cons_zero, List.set_cons_succ]
      refine held_take 6 (some 92) (v := ?_) rfl rfl (by kernel_rfl) (by kernel_rfl) (by kernel_rfl) (fun _ _ _ _ h => h) (by kernel_rfl) ?_ hHeld ?_
      rotate_left 1
      · intro w hSw; (try dsimp only at hSw); go_simp; (try with_reducible rfl)
      try simp only [List.foldl_cons, List.foldl_nil, List.length_cons, List.length_nil, Act.put, List.setIfInBounds_toArray, List.set_cons_zero, List.set_cons_succ]
      refine held_take 7 (some 93) (v := ?_) rfl rfl (by kernel_rfl) (by kernel_rfl) (by kernel_rfl) (fun _ _ _ _ h => h) (by kernel_rfl) ?_ hHeld ?_
      rotate_left 1
      · intro w hSw; (try dsimp only at hSw); go_simp; (try with_reducible rfl)
      try simp only [List.foldl_cons, List.foldl_nil, List.length_cons, List.length_nil, Act.put, List.setIfInBounds_toArray, List.set_cons_zero, List.set_cons_succ]
      refine held_take 8 (some 94) (v := ?_) rfl rfl (by kernel_rfl) (by kernel_rfl) (by kernel_rfl) (fun _ _ _ _ h => h) (by kernel_rfl) ?_ hHeld ?_
      rotate_left 1
      · intro w hSw; (try dsimp only at hSw); go_simp; (try with_reducible rfl)
      try simp only [List.foldl_cons, List.foldl_nil, List.length_cons, List.length_nil, Act.put, List.setIfInBounds_toArray, List.set_cons_zero, List.set_cons_succ]
      refine held_skips (fuel := 16) (by kernel_rfl) (fun _ _ _ _ h => h) [(9, some 95), (10, some 96), (11, some 97)] (by kernel_rfl) hHeld ?_
      try simp only [List.foldl_cons, List.foldl_nil, List.length_cons, List.length_nil, Act.put, List.setIfInBounds_toArray, List.set_cons_zero, List.set_cons_succ]
      refine held_take 12 (some 98) (v := ?_) rfl rfl (by kernel_rfl) (by kernel_rfl) (by kernel_rfl) (fun _ _ _ _ h => h) (by kernel_rfl) ?_ hHeld ?_
      rotate_left 1
      · intro w hSw; (try dsimp only at hSw); go_simp; (try with_reducible rfl)
      try simp only [List.foldl_cons, List.foldl_nil, List.length_cons, List.length_nil, Act.put, List.setIfInBounds_toArray, List.set_cons_zero, List.set_cons_succ]
      refine held_take 13 (some 99) (v := ?_) rfl rfl (by kernel_rfl) (by kernel_rfl) (by kernel_rfl) (fun _ _ _ _ h => h) (by kernel_rfl) ?_ hHeld ?_
      rotate_left 1
      · intro w hSw; (try dsimp only at hSw); go_simp; (try with_reducible rfl)
      try simp only [List.foldl_cons, List.foldl_nil, List.length_cons, List.length_nil, Act.put, List.setIfInBounds_toArray, List.set_cons_zero, List.set_cons_succ]
      refine held_take 14 (some 100) (v := ?_) rfl rfl (by kernel_rfl) (by kernel_rfl) (by kernel_rfl) (fun _ _ _ _ h => h) (by kernel_rfl) ?_ hHeld ?_
      rotate_left 1
      · intro w hSw; (try dsimp only at hSw); go_simp; (try with_reducible rfl)
      try simp only [List.foldl_cons, List.foldl_nil, List.length_cons, List.length_nil, Act.put, List.setIfInBounds_toArray, List.set_cons_zero, List.set_cons_succ]
      refine held_take 15 (some 101) (v := ?_) rfl rfl (by kernel_rfl) (by kernel_rfl) (by kernel_rfl) (fun _ _ _ _ h => h) (by kernel_rfl) ?_ hHeld ?_
      rotate_left 1
      · intro w hSw; (try dsimp only at hSw); go_simp; (try with_reducible rfl)
      try simp only [List.foldl_cons, List.foldl_nil, List.length_cons, List.length_nil, Act.put, List.setIfInBounds_toArray, List.set_cons_zero, List.set_cons_succ]
      refine held_take 16 (some 102) (v := ?_) rfl rfl (by kernel_rfl) (by kernel_rfl) (by kernel_rfl) (fun _ _ _ _ h => h) (by kernel_rfl) ?_ hHeld ?_
      rotate_left 1
      · intro w hSw; (try dsimp only at hSw); go_simp; (try with_reducible rfl)
      try simp only [List.foldl_cons, List.foldl_nil, List.length_cons, List.length_nil, Act.put, List.setIfInBounds_toArray, List.set_cons_zero, List.set_cons_succ]
      refine held_take 17 (some 103) (v := ?_) rfl rfl (by kernel_rfl) (by kernel_rfl) (by kernel_rfl) (fun _ _ _ _ h => h) (by kernel_rfl) ?_ hHeld ?_
      rotate_left 1
      · intro w hSw; (try dsimp only at hSw); go_simp; (try with_reducible rfl)
      try simp only [List.foldl_cons, List.foldl_nil, List.length_cons, List.length_nil, Act.put, List.setIfInBounds_toArray, List.set_cons_zero, List.set_cons_succ]
      refine held_take 18 (some 104) (v := ?_) rfl rfl (by kernel_rfl) (by kernel_rfl) (by kernel_rfl) (fun _ _ _ _ h => h) (by kernel_rfl) ?_ hHeld ?_
      rotate_left 1
      · intro w hSw; (try dsimp only at hSw); go_simp; (try with_reducible rfl)
      try simp only [List.foldl_cons, List.foldl_nil, List.length_cons, List.length_nil, Act.put, List.setIfInBounds_toArray, List.set_cons_zero, List.set_cons_succ]
      refine held_take 19 (some 105) (v := ?_) rfl rfl (by kernel_rfl) (by kernel_rfl) (by kernel_rfl) (fun _ _ _ _ h => h) (by kernel_rfl) ?_ hHeld ?_
      rotate_left 1
      · intro w hSw; (try dsimp only at hSw); go_simp; (try with_reducible rfl)
      try simp only [List.foldl_cons, List.foldl_nil, List.length_cons, List.length_nil, Act.put, List.setIfInBounds_toArray, List.set_cons_zero, List.set_cons_succ]
      refine held_take 20 (some 106) (v := ?_) rfl rfl (by kernel_rfl) (by kernel_rfl) (by kernel_rfl) (fun _ _ _ _ h => h) (by kernel_rfl) ?_ hHeld ?_
      rotate_left 1
      · intro w hSw; (try dsimp only at hSw); go_simp; (try with_reducible rfl)
      try simp only [List.foldl_cons, List.foldl_nil, List.length_cons, List.length_nil, Act.put, List.setIfInBounds_toArray, List.set_cons_zero, List.set_cons_succ]
      refine held_take 21 (some 107) (v := ?_) rfl rfl (by kernel_rfl) (by kernel_rfl) (by kernel_rfl) (fun _ _ _ _ h => h) (by kernel_rfl) ?_ hHeld ?_
      rotate_left 1
      · intro w hSw; (try dsimp only at hSw); go_simp; (try with_reducible rfl)
      try simp only [List.foldl_cons, List.foldl_nil, List.length_cons, List.length_nil, Act.put, List.setIfInBounds_toArray, List.set_cons_zero, List.set_cons_succ]
      refine held_skips (fuel := 3) (by kernel_rfl) (fun _ _ _ _ h => h) [(22, some 108), (23, some 109), (24, some 110)] (by kernel_rfl) hHeld ?_
      try simp only [List.foldl_cons, List.foldl_nil, List.length_cons, List.length_nil, Act.put, List.setIfInBounds_toArray, List.set_cons_zero, List.set_cons_succ]
      refine held_take 25 (some 111) (v := ?_) rfl rfl (by kernel_rfl) (by kernel_rfl) (by kernel_rfl) (fun _ _ _ _ h => h) (by kernel_rfl) ?_ hHeld ?_
      rotate_left 1
      · intro w hSw; (try dsimp only at hSw); go_simp; (try with_reducible rfl)
      try simp only [List.foldl_cons, List.foldl_nil, List.length_cons, List.length_nil, Act.put, List.setIfInBounds_toArray, List.set_cons_zero, List.set_cons_succ]
      refine held_take 26 (some 5) (v := ?_) rfl rfl (by kernel_rfl) (by kernel_rfl) (by kernel_rfl) (fun _ _ _ _ h => h) (by kernel_rfl) ?_ hHeld ?_
      rotate_left 1
      · intro w hSw; (try dsimp only at hSw); go_simp; (try with_reducible rfl)
      try simp only [List.foldl_cons, List.foldl_nil, List.length_cons, List.length_nil, Act.put, List.setIfInBounds_toArray, List.set_cons_zero, List.set_cons_succ]
      refine held_take 27 (some 3) (v := ?_) rfl rfl (by kernel_rfl) (by kernel_rfl) (by kernel_rfl) (fun _ _ _ _ h => h) (by kernel_rfl) ?_ hHeld ?_
      rotate_left 1
      · intro w hSw; (try dsimp only at hSw); go_simp; (try with_reducible rfl)
      try simp only [List.foldl_cons, List.foldl_nil, List.length_cons, List.length_nil, Act.put, List.setIfInBounds_toArray, List.set_cons_zero, List.set_cons_succ]
      refine wpAnyH_done (by kernel_rfl) ?_ _
      go_wp2
      all_goals
        go_ret
        exact ⟨⟨_, rfl, fun h => by first | exact HP.out | cases h⟩, by first | exact hbw | go_grown⟩
    · have hre := txt_isEmpty hte
      clear hte
      go_enter Try.func16, Try.ntmps16
      go_wp2_with fail
      go_region
      go_wp2_with fail
      refine held_begin (S := fun w' => w'.cell? ⟨w.heap.size, 2, none⟩ = some (.string text) ∧ w'.cell? ⟨w.heap.size, 3, none⟩ = some (.int .i64 0)) 28 (by rfl) (by kernel_rfl) ?_ (fun hHeld => ?_)
      · exact ⟨cell_drew (cell_drew (cell_of_block (block_new w _) rfl)), cell_drew (cell_drew (cell_of_block (block_new w _) rfl))⟩
      refine held_take 0 (some 86) (v := ?_) rfl rfl (by kernel_rfl) (by kernel_rfl) (by kernel_rfl) (fun _ _ _ _ h => h) (by kernel_rfl) ?_ hHeld ?_
      rotate_left 1
      · intro w hSw; (try dsimp only at hSw); go_simp; (try with_reducible rfl)
      try simp only [List.foldl_cons, List.foldl_nil, List.length_cons, List.length_nil, Act.put, List.setIfInBounds_toArray, List.set_cons_zero, List.set_cons_succ]
      refine held_take 1 (some 87) (v := ?_) rfl rfl (by kernel_rfl) (by kernel_rfl) (by kernel_rfl) (fun _ _ _ _ h => h) (by kernel_rfl) ?_ hHeld ?_
      rotate_left 1
      · intro w hSw; (try dsimp only at hSw); go_simp; (try with_reducible rfl)
      try simp only [List.foldl_cons, List.foldl_nil, List.length_cons, List.length_nil, Act.put, List.setIfInBounds_toArray, List.set_cons_zero, List.set_cons_succ]
      refine held_take 2 (some 88) (v := ?_) rfl rfl (by kernel_rfl) (by kernel_rfl) (by kernel_rfl) (fun _ _ _ _ h => h) (by kernel_rfl) ?_ hHeld ?_
      rotate_left 1
      · intro w hSw; (try dsimp only at hSw); go_simp; (try with_reducible rfl)
      try simp only [List.foldl_cons, List.foldl_nil, List.length_cons, List.length_nil, Act.put, List.setIfInBounds_toArray, List.set_cons_zero, List.set_cons_succ]
      refine held_take 3 (some 89) (v := ?_) rfl rfl (by kernel_rfl) (by kernel_rfl) (by kernel_rfl) (fun _ _ _ _ h => h) (by kernel_rfl) ?_ hHeld ?_
      rotate_left 1
      · intro w hSw; (try dsimp only at hSw); go_simp; (try with_reducible rfl)
      try simp only [List.foldl_cons, List.foldl_nil, List.length_cons, List.length_nil, Act.put, List.setIfInBounds_toArray, List.set_cons_zero, List.set_cons_succ]
      refine held_take 4 (some 90) (v := ?_) rfl rfl (by kernel_rfl) (by kernel_rfl) (by kernel_rfl) (fun _ _ _ _ h => h) (by kernel_rfl) ?_ hHeld ?_
      rotate_left 1
      · intro w hSw; (try dsimp only at hSw); go_simp; (try with_reducible rfl)
      try simp only [List.foldl_cons, List.foldl_nil, List.length_cons, List.length_nil, Act.put, List.setIfInBounds_toArray, List.set_cons_zero, List.set_cons_succ]
      refine held_take 5 (some 91) (v := ?_) rfl rfl (by kernel_rfl) (by kernel_rfl) (by kernel_rfl) (fun _ _ _ _ h => h) (by kernel_rfl) ?_ hHeld ?_
      rotate_left 1
      · intro w hSw; (try dsimp only at hSw); go_simp; (try with_reducible rfl)
      try simp only [List.foldl_cons, List.foldl_nil, List.length_cons, List.length_nil, Act.put, List.setIfInBounds_toArray, List.set_cons_zero, List.set_cons_succ]
      refine held_take 6 (some 92) (v := ?_) rfl rfl (by kernel_rfl) (by kernel_rfl) (by kernel_rfl) (fun _ _ _ _ h => h) (by kernel_rfl) ?_ hHeld ?_
      rotate_left 1
      · intro w hSw; (try dsimp only at hSw); go_simp; (try with_reducible rfl)
      try simp only [List.foldl_cons, List.foldl_nil, List.length_cons, List.length_nil, Act.put, List.setIfInBounds_toArray, List.set_cons_zero, List.set_cons_succ]
      refine held_take 7 (some 93) (v := ?_) rfl rfl (by kernel_rfl) (by kernel_rfl) (by kernel_rfl) (fun _ _ _ _ h => h) (by kernel_rfl) ?_ hHeld ?_
      rotate_left 1
      · intro w hSw; (try dsimp only at hSw); go_simp; (try with_reducible rfl)
      try simp only [List.foldl_cons, List.foldl_nil, List.length_cons, List.length_nil, Act.put, List.setIfInBounds_toArray, List.set_cons_zero, List.set_cons_succ]
      refine held_take 8 (some 94) (v := ?_) rfl rfl (by kernel_rfl) (by kernel_rfl) (by kernel_rfl) (fun _ _ _ _ h => h) (by kernel_rfl) ?_ hHeld ?_
      rotate_left 1
      · intro w hSw; (try dsimp only at hSw); go_simp; (try with_reducible rfl)
      try simp only [List.foldl_cons, List.foldl_nil, List.length_cons, List.length_nil, Act.put, List.setIfInBounds_toArray, List.set_cons_zero, List.set_cons_succ]
      refine held_take 9 (some 95) (v := ?_) rfl rfl (by kernel_rfl) (by kernel_rfl) (by kernel_rfl) (fun _ _ _ _ h => h) (by kernel_rfl) ?_ hHeld ?_
      rotate_left 1
      · intro w hSw; (try dsimp only at hSw); go_simp; (try with_reducible rfl)
      try simp only [List.foldl_cons, List.foldl_nil, List.length_cons, List.length_nil, Act.put, List.setIfInBounds_toArray, List.set_cons_zero, List.set_cons_succ]
      refine held_take 10 (some 96) (v := ?_) rfl rfl (by kernel_rfl) (by kernel_rfl) (by kernel_rfl) (fun _ _ _ _ h => h) (by kernel_rfl) ?_ hHeld ?_
      rotate_left 1
      · intro w hSw; (try dsimp only at hSw); go_simp; (try with_reducible rfl)
      try simp only [List.foldl_cons, List.foldl_nil, List.length_cons, List.length_nil, Act.put, List.setIfInBounds_toArray, List.set_cons_zero, List.set_cons_succ]
      refine held_take 13 (some 99) (v := ?_) rfl rfl (by kernel_rfl) (by kernel_rfl) (by kernel_rfl) (fun _ _ _ _ h => h) (by kernel_rfl) ?_ hHeld ?_
      rotate_left 1
      · intro w hSw; (try dsimp only at hSw); go_simp; (try with_reducible rfl)
      try simp only [List.foldl_cons, List.foldl_nil, List.length_cons, List.length_nil, Act.put, List.setIfInBounds_toArray, List.set_cons_zero, List.set_cons_succ]
      refine held_take 14 (some 100) (v := ?_) rfl rfl (by kernel_rfl) (by kernel_rfl) (by kernel_rfl) (fun _ _ _ _ h => h) (by kernel_rfl) ?_ hHeld ?_
      rotate_left 1
      · intro w hSw; (try dsimp only at hSw); go_simp; (try with_reducible rfl)
      try simp only [List.foldl_cons, List.foldl_nil, List.length_cons, List.length_nil, Act.put, List.setIfInBounds_toArray, List.set_cons_zero, List.set_cons_succ]
      refine held_take 15 (some 101) (v := ?_) rfl rfl (by kernel_rfl) (by kernel_rfl) (by kernel_rfl) (fun _ _ _ _ h => h) (by kernel_rfl) ?_ hHeld ?_
      rotate_left 1
      · intro w hSw; (try dsimp only at hSw); go_simp; (try with_reducible rfl)
      try simp only [List.foldl_cons, List.foldl_nil, List.length_cons, List.length_nil, Act.put, List.setIfInBounds_toArray, List.set_cons_zero, List.set_cons_succ]
      refine wpAnyH_ready (rs := [11]) (by kernel_rfl) (by simp) ?_
      refine AllReadyH.cons rfl (fun K hK => ?_) AllReadyH.nil
      go_simp
      (go_at_call 25; refine (identifier_any text hz _).mono ?_; rintro e w1 ⟨⟨r, rfl, -⟩, hb1⟩; have hbw : Below w.heap.size w w1 := below_step (Nat.le_refl _) (by go_grown) hb1)
      go_wp2_with fail
      have hOld := hHeld
      clear hHeld
      refine hK.out _ _ ?_ (fun hHeld => ?_)
      · exact ⟨cell_later hb1 hOld.1, cell_later hb1 hOld.2⟩
      clear hK K hOld
      try simp only [List.foldl_cons, List.foldl_nil, List.length_cons, List.length_nil, Act.put, List.setIfInBounds_toArray, List.set_cons_zero, List.set_cons_succ]
      refine held_take 12 (some 98) (v := ?_) rfl rfl (by kernel_rfl) (by kernel_rfl) (by kernel_rfl) (fun _ _ _ _ h => h) (by kernel_rfl) ?_ hHeld ?_
      rotate_left 1
      · intro w hSw; (try dsimp only at hSw); go_simp; (try with_reducible rfl)
      try simp only [List.foldl_cons, List.foldl_nil, List.length_cons, List.length_nil, Act.put, List.setIfInBounds_toArray, List.set_cons_zero, List.set_cons_succ]
      refine held_take 16 (some 102) (v := ?_) rfl rfl (by kernel_rfl) (by kernel_rfl) (by kernel_rfl) (fun _ _ _ _ h => h) (by kernel_rfl) ?_ hHeld ?_
      rotate_left 1
      · intro w hSw; (try dsimp only at hSw); go_simp; (try with_reducible rfl)
      try simp only [List.foldl_cons, List.foldl_nil, List.length_cons, List.length_nil, Act.put, List.setIfInBounds_toArray, List.set_cons_zero, List.set_cons_succ]
      refine held_take 17 (some 103) (v := ?_) rfl rfl (by kernel_rfl) (by kernel_rfl) (by kernel_rfl) (fun _ _ _ _ h => h) (by kernel_rfl) ?_ hHeld ?_
      rotate_left 1
      · intro w hSw; (try dsimp only at hSw); go_simp; (try with_reducible rfl)
      try simp only [List.foldl_cons, List.foldl_nil, List.length_cons, List.length_nil, Act.put, List.setIfInBounds_toArray, List.set_cons_zero, List.set_cons_succ]
      refine held_take 18 (some 104) (v := ?_) rfl rfl (by kernel_rfl) (by kernel_rfl) (by kernel_rfl) (fun _ _ _ _ h => h) (by kernel_rfl) ?_ hHeld ?_
      rotate_left 1
      · intro w hSw; (try dsimp only at hSw); go_simp; (try with_reducible rfl)
      try simp only [List.foldl_cons, List.foldl_nil, List.length_cons, List.length_nil, Act.put, List.setIfInBounds_toArray, List.set_cons_zero, List.set_cons_succ]
      refine held_take 19 (some 105) (v := ?_) rfl rfl (by kernel_rfl) (by kernel_rfl) (by kernel_rfl) (fun _ _ _ _ h => h) (by kernel_rfl) ?_ hHeld ?_
      rotate_left 1
      · intro w hSw; (try dsimp only at hSw); go_simp; (try with_reducible rfl)
      try simp only [List.foldl_cons, List.foldl_nil, List.length_cons, List.length_nil, Act.put, List.setIfInBounds_toArray, List.set_cons_zero, List.set_cons_succ]
      refine held_take 20 (some 106) (v := ?_) rfl rfl (by kernel_rfl) (by kernel_rfl) (by kernel_rfl) (fun _ _ _ _ h => h) (by kernel_rfl) ?_ hHeld ?_
      rotate_left 1
      · intro w hSw; (try dsimp only at hSw); go_simp; (try with_reducible rfl)
      try simp only [List.foldl_cons, List.foldl_nil, List.length_cons, List.length_nil, Act.put, List.setIfInBounds_toArray, List.set_cons_zero, List.set_cons_succ]
      refine held_take 21 (some 107) (v := ?_) rfl rfl (by kernel_rfl) (by kernel_rfl) (by kernel_rfl) (fun _ _ _ _ h => h) (by kernel_rfl) ?_ hHeld ?_
      rotate_left 1
      · intro w hSw; (try dsimp only at hSw); go_simp; (try with_reducible rfl)
      try simp only [List.foldl_cons, List.foldl_nil, List.length_cons, List.length_nil, Act.put, List.setIfInBounds_toArray, List.set_cons_zero, List.set_cons_succ]
      refine held_take 22 (some 108) (v := ?_) rfl rfl (by kernel_rfl) (by kernel_rfl) (by kernel_rfl) (fun _ _ _ _ h => h) (by kernel_rfl) ?_ hHeld ?_
      rotate_left 1
      · intro w hSw; (try dsimp only at hSw); go_simp; (try with_reducible rfl)
      try simp only [List.foldl_cons, List.foldl_nil, List.length_cons, List.length_nil, Act.put, List.setIfInBounds_toArray, List.set_cons_zero, List.set_cons_succ]
      refine held_take 23 (some 109) (v := ?_) rfl rfl (by kernel_rfl) (by kernel_rfl) (by kernel_rfl) (fun _ _ _ _ h => h) (by kernel_rfl) ?_ hHeld ?_
      rotate_left 1
      · intro w hSw; (try dsimp only at hSw); go_simp; (try with_reducible rfl)
      try simp only [List.foldl_cons, List.foldl_nil, List.length_cons, List.length_nil, Act.put, List.setIfInBounds_toArray, List.set_cons_zero, List.set_cons_succ]
      refine held_take 24 (some 110) (v := ?_) rfl rfl (by kernel_rfl) (by kernel_rfl) (by kernel_rfl) (fun _ _ _ _ h => h) (by kernel_rfl) ?_ hHeld ?_
      rotate_left 1
      · intro w hSw; (try dsimp only at hSw); go_simp; (try with_reducible rfl)
      try simp only [List.foldl_cons, List.foldl_nil, List.length_cons, List.length_nil, Act.put, List.setIfInBounds_toArray, List.set_cons_zero, List.set_cons_succ]
      refine held_take 25 (some 111) (v := ?_) rfl rfl (by kernel_rfl) (by kernel_rfl) (by kernel_rfl) (fun _ _ _ _ h => h) (by kernel_rfl) ?_ hHeld ?_
      rotate_left 1
      · intro w hSw; (try dsimp only at hSw); go_simp; (try with_reducible rfl)
      try simp only [List.foldl_cons, List.foldl_nil, List.length_cons, List.length_nil, Act.put, List.setIfInBounds_toArray, List.set_cons_zero, List.set_cons_succ]
      refine held_take 26 (some 5) (v := ?_) rfl rfl (by kernel_rfl) (by kernel_rfl) (by kernel_rfl) (fun _ _ _ _ h => h) (by kernel_rfl) ?_ hHeld ?_
      rotate_left 1
      · intro w hSw; (try dsimp only at hSw); go_simp; (try with_reducible rfl)
      try simp only [List.foldl_cons, List.foldl_nil, List.length_cons, List.length_nil, Act.put, List.setIfInBounds_toArray, List.set_cons_zero, List.set_cons_succ]
      refine held_take 27 (some 3) (v := ?_) rfl rfl (by kernel_rfl) (by kernel_rfl) (by kernel_rfl) (fun _ _ _ _ h => h) (by kernel_rfl) ?_ hHeld ?_
      rotate_left 1
      · intro w hSw; (try dsimp only at hSw); go_simp; (try with_reducible rfl)
      try simp only [List.foldl_cons, List.foldl_nil, List.length_cons, List.length_nil, Act.put, List.setIfInBounds_toArray, List.set_cons_zero, List.set_cons_succ]
      refine wpAnyH_done (by kernel_rfl) ?_ _
      go_wp2
      all_goals
        go_ret
        exact ⟨⟨_, rfl, fun h => by first | exact HP.out | cases h⟩, by first | exact hbw | go_grown⟩
  · have HP : Hid (BareOk 9 op 1) := Lib.hid ⟨fun h => by omega, fun h => by omega, fun _ => by omega, fun h => by omega⟩
    go_enter Try.func16, Try.ntmps16
    go_wp2_with fail
    go_region
    go_wp2_with fail
    refine held_begin (S := fun w' => w'.cell? ⟨w.heap.size, 2, none⟩ = some (.string text) ∧ w'.cell? ⟨w.heap.size, 3, none⟩ = some (.int .i64 1)) 28 (by rfl) (by kernel_rfl) ?_ (fun hHeld => ?_)
    · exact ⟨cell_drew (cell_drew (cell_of_block (block_new w _) rfl)), cell_drew (cell_drew (cell_of_block (block_new w _) rfl))⟩
    refine held_take 0 (some 86) (v := ?_) rfl rfl (by kernel_rfl) (by kernel_rfl) (by kernel_rfl) (fun _ _ _ _ h => h) (by kernel_rfl) ?_ hHeld ?_
    rotate_left 1
    · intro w hSw; (try dsimp only at hSw); go_simp; (try with_reducible rfl)
    try simp only [List.foldl_cons, List.foldl_nil, List.length_cons, List.length_nil, Act.put, List.setIfInBounds_toArray, List.set_cons_zero, List.set_cons_succ]
    refine held_take 1 (some 87) (v := ?_) rfl rfl (by kernel_rfl) (by kernel_rfl) (by kernel_rfl) (fun _ _ _ _ h => h) (by kernel_rfl) ?_ hHeld ?_
    rotate_left 1
    · intro w hSw; (try dsimp only at hSw); go_simp; (try with_reducible rfl)
    try simp only [List.foldl_cons, List.foldl_nil, List.length_cons, List.length_nil, Act.put, List.setIfInBounds_toArray, List.set_cons_zero, List.set_cons_succ]
    refine held_take 2 (some 88) (v := ?_) rfl rfl (by kernel_rfl) (by kernel_rfl) (by kernel_rfl) (fun _ _ _ _ h => h) (by kernel_rfl) ?_ hHeld ?_
    rotate_left 1
    · intro w hSw; (try dsimp only at hSw); go_simp; (try with_reducible rfl)
    try simp only [List.foldl_cons, List.foldl_nil, List.length_cons, List.length_nil, Act.put, List.setIfInBounds_toArray, List.set_cons_zero, List.set_cons_succ]
    refine held_take 3 (some 89) (v := ?_) rfl rfl (by kernel_rfl) (by kernel_rfl) (by kernel_rfl) (fun _ _ _ _ h => h) (by kernel_rfl) ?_ hHeld ?_
    rotate_left 1
    · intro w hSw; (try dsimp only at hSw); go_simp; (try with_reducible rfl)
    try simp only [List.foldl_cons, List.foldl_nil, List.length_cons, List.length_nil, Act.put, List.setIfInBounds_toArray, List.set_cons_zero, List.set_cons_succ]
    refine held_skips (fuel := 21) (by kernel_rfl) (fun _ _ _ _ h => h) [(4, some 90), (5, some 91), (6, some 92)] (by kernel_rfl) hHeld ?_
    try simp only [List.foldl_cons, List.foldl_nil, List.length_cons, List.length_nil, Act.put, List.setIfInBounds_toArray, List.set_cons_zero, List.set_cons_succ]
    refine held_take 7 (some 93) (v := ?_) rfl rfl (by kernel_rfl) (by kernel_rfl) (by kernel_rfl) (fun _ _ _ _ h => h) (by kernel_rfl) ?_ hHeld ?_
    rotate_left 1
    · intro w hSw; (try dsimp only at hSw); go_simp; (try with_reducible rfl)
    try simp only [List.foldl_cons, List.foldl_nil, List.length_cons, List.length_nil, Act.put, List.setIfInBounds_toArray, List.set_cons_zero, List.set_cons_succ]
    refine held_take 8 (some 94) (v := ?_) rfl rfl (by kernel_rfl) (by kernel_rfl) (by kernel_rfl) (fun _ _ _ _ h => h) (by kernel_rfl) ?_ hHeld ?_
    rotate_left 1
    · intro w hSw; (try dsimp only at hSw); go_simp; (try with_reducible rfl)
    try simp only [List.foldl_cons, List.foldl_nil, List.length_cons, List.length_nil, Act.put, List.setIfInBounds_toArray, List.set_cons_zero, List.set_cons_succ]
    refine held_take 9 (some 95) (v := ?_) rfl rfl (by kernel_rfl) (by kernel_rfl) (by kernel_rfl) (fun _ _ _ _ h => h) (by kernel_rfl) ?_ hHeld ?_
    rotate_left 1
    · intro w hSw; (try dsimp only at hSw); go_simp; (try with_reducible rfl)
    try simp only [List.foldl_cons, List.foldl_nil, List.length_cons, List.length_nil, Act.put, List.setIfInBounds_toArray, List.set_cons_zero, List.set_cons_succ]
    refine held_take 10 (some 96) (v := ?_) rfl rfl (by kernel_rfl) (by kernel_rfl) (by kernel_rfl) (fun _ _ _ _ h => h) (by kernel_rfl) ?_ hHeld ?_
    rotate_left 1
    · intro w hSw; (try dsimp only at hSw); go_simp; (try with_reducible rfl)
    try simp only [List.foldl_cons, List.foldl_nil, List.length_cons, List.length_nil, Act.put, List.setIfInBounds_toArray, List.set_cons_zero, List.set_cons_succ]
    refine held_take 13 (some 99) (v := ?_) rfl rfl (by kernel_rfl) (by kernel_rfl) (by kernel_rfl) (fun _ _ _ _ h => h) (by kernel_rfl) ?_ hHeld ?_
    rotate_left 1
    · intro w hSw; (try dsimp only at hSw); go_simp; (try with_reducible rfl)
    try simp only [List.foldl_cons, List.foldl_nil, List.length_cons, List.length_nil, Act.put, List.setIfInBounds_toArray, List.set_cons_zero, List.set_cons_succ]
    refine held_take 14 (some 100) (v := ?_) rfl rfl (by kernel_rfl) (by kernel_rfl) (by kernel_rfl) (fun _ _ _ _ h => h) (by kernel_rfl) ?_ hHeld ?_
    rotate_left 1
    · intro w hSw; (try dsimp only at hSw); go_simp; (try with_reducible rfl)
    try simp only [List.foldl_cons, List.foldl_nil, List.length_cons, List.length_nil, Act.put, List.setIfInBounds_toArray, List.set_cons_zero, List.set_cons_succ]
    refine held_take 15 (some 101) (v := ?_) rfl rfl (by kernel_rfl) (by kernel_rfl) (by kernel_rfl) (fun _ _ _ _ h => h) (by kernel_rfl) ?_ hHeld ?_
    rotate_left 1
    · intro w hSw; (try dsimp only at hSw); go_simp; (try with_reducible rfl)
    try simp only [List.foldl_cons, List.foldl_nil, List.length_cons, List.length_nil, Act.put, List.setIfInBounds_toArray, List.set_cons_zero, List.set_cons_succ]
    refine wpAnyH_ready (rs := [11]) (by kernel_rfl) (by simp) ?_
    refine AllReadyH.cons rfl (fun K hK => ?_) AllReadyH.nil
    go_simp
    (go_at_call 25; refine (identifier_any text hz _).mono ?_; rintro e w1 ⟨⟨r, rfl, -⟩, hb1⟩; have hbw : Below w.heap.size w w1 := below_step (Nat.le_refl _) (by go_grown) hb1)
    go_wp2_with fail
    have hOld := hHeld
    clear hHeld
    refine hK.out _ _ ?_ (fun hHeld => ?_)
    · exact ⟨cell_later hb1 hOld.1, cell_later hb1 hOld.2⟩
    clear hK K hOld
    try simp only [List.foldl_cons, List.foldl_nil, List.length_cons, List.length_nil, Act.put, List.setIfInBounds_toArray, List.set_cons_zero, List.set_cons_succ]
    refine held_take 12 (some 98) (v := ?_) rfl rfl (by kernel_rfl) (by kernel_rfl) (by kernel_rfl) (fun _ _ _ _ h => h) (by kernel_rfl) ?_ hHeld ?_
    rotate_left 1
    · intro w hSw; (try dsimp only at hSw); go_simp; (try with_reducible rfl)
    try simp only [List.foldl_cons, List.foldl_nil, List.length_cons, List.length_nil, Act.put, List.setIfInBounds_toArray, List.set_cons_zero, List.set_cons_succ]
    refine held_take 16 (some 102) (v := ?_) rfl rfl (by kernel_rfl) (by kernel_rfl) (by kernel_rfl) (fun _ _ _ _ h => h) (by kernel_rfl) ?_ hHeld ?_
    rotate_left 1
    · intro w hSw; (try dsimp only at hSw); go_simp; (try with_reducible rfl)
    try simp only [List.foldl_cons, List.foldl_nil, List.length_cons, List.length_nil, Act.put, List.setIfInBounds_toArray, List.set_cons_zero, List.set_cons_succ]
    refine held_skips (fuel := 8) (by kernel_rfl) (fun _ _ _ _ h => h) [(17, some 103), (18, some 104), (19, some 105)] (by kernel_rfl) hHeld ?_
    try simp only [List.foldl_cons, List.foldl_nil, List.length_cons, List.length_nil, Act.put, List.setIfInBounds_toArray, List.set_cons_zero, List.set_cons_succ]
    refine held_take 20 (some 106) (v := ?_) rfl rfl (by kernel_rfl) (by kernel_rfl) (by kernel_rfl) (fun _ _ _ _ h => h) (by kernel_rfl) ?_ hHeld ?_
    rotate_left 1
    · intro w hSw; (try dsimp only at hSw); go_simp; (try with_reducible rfl)
    try simp only [List.foldl_cons, List.foldl_nil, List.length_cons, List.length_nil, Act.put, List.setIfInBounds_toArray, List.set_cons_zero, List.set_cons_succ]
    refine held_take 21 (some 107) (v := ?_) rfl rfl (by kernel_rfl) (by kernel_rfl) (by kernel_rfl) (fun _ _ _ _ h => h) (by kernel_rfl) ?_ hHeld ?_
    rotate_left 1
    · intro w hSw; (try dsimp only at hSw); go_simp; (try with_reducible rfl)
    try simp only [List.foldl_cons, List.foldl_nil, List.length_cons, List.length_nil, Act.put, List.setIfInBounds_toArray, List.set_cons_zero, List.set_cons_succ]
    refine held_take 22 (some 108) (v := ?_) rfl rfl (by kernel_rfl) (by kernel_rfl) (by kernel_rfl) (fun _ _ _ _ h => h) (by kernel_rfl) ?_ hHeld ?_
    rotate_left 1
    · intro w hSw; (try dsimp only at hSw); go_simp; (try with_reducible rfl)
    try simp only [List.foldl_cons, List.foldl_nil, List.length_cons, List.length_nil, Act.put, List.setIfInBounds_toArray, List.set_cons_zero, List.set_cons_succ]
    refine held_take 23 (some 109) (v := ?_) rfl rfl (by kernel_rfl) (by kernel_rfl) (by kernel_rfl) (fun _ _ _ _ h => h) (by kernel_rfl) ?_ hHeld ?_
    rotate_left 1
    · intro w hSw; (try dsimp only at hSw); go_simp; (try with_reducible rfl)
    try simp only [List.foldl_cons, List.foldl_nil, List.length_cons, List.length_nil, Act.put, List.setIfInBounds_toArray, List.set_cons_zero, List.set_cons_succ]
    refine held_take 24 (some 110) (v := ?_) rfl rfl (by kernel_rfl) (by kernel_rfl) (by kernel_rfl) (fun _ _ _ _ h => h) (by kernel_rfl) ?_ hHeld ?_
    rotate_left 1
    · intro w hSw; (try dsimp only at hSw); go_simp; (try with_reducible rfl)
    try simp only [List.foldl_cons, List.foldl_nil, List.length_cons, List.length_nil, Act.put, List.setIfInBounds_toArray, List.set_cons_zero, List.set_cons_succ]
    refine held_take 25 (some 111) (v := ?_) rfl rfl (by kernel_rfl) (by kernel_rfl) (by kernel_rfl) (fun _ _ _ _ h => h) (by kernel_rfl) ?_ hHeld ?_
    rotate_left 1
    · intro w hSw; (try dsimp only at hSw); go_simp; (try with_reducible rfl)
    try simp only [List.foldl_cons, List.foldl_nil, List.length_cons, List.length_nil, Act.put, List.setIfInBounds_toArray, List.set_cons_zero, List.set_cons_succ]
    refine held_take 26 (some 5) (v := ?_) rfl rfl (by kernel_rfl) (by kernel_rfl) (by kernel_rfl) (fun _ _ _ _ h => h) (by kernel_rfl) ?_ hHeld ?_
    rotate_left 1
    · intro w hSw; (try dsimp only at hSw); go_simp; (try with_reducible rfl)
    try simp only [List.foldl_cons, List.foldl_nil, List.length_cons, List.length_nil, Act.put, List.setIfInBounds_toArray, List.set_cons_zero, List.set_cons_succ]
    refine held_take 27 (some 3) (v := ?_) rfl rfl (by kernel_rfl) (by kernel_rfl) (by kernel_rfl) (fun _ _ _ _ h => h) (by kernel_rfl) ?_ hHeld ?_
    rotate_left 1
    · intro w hSw; (try dsimp only at hSw); go_simp; (try with_reducible rfl)
    try simp only [List.foldl_cons, List.foldl_nil, List.length_cons, List.length_nil, Act.put, List.setIfInBounds_toArray, List.set_cons_zero, List.set_cons_succ]
    refine wpAnyH_done (by kernel_rfl) ?_ _
    go_wp2
    all_goals
      go_ret
      exact ⟨⟨_, rfl, fun h => by first | exact HP.out | cases h⟩, by first | exact hbw | go_grown⟩
  · have d1 : (flag == 0) = false := by simpa using c1
    have d2 : (flag == 1) = false := by simpa using c2
    go_enter Try.func16, Try.ntmps16
    go_wp2_with fail
    go_region
    go_wp2_with fail
    refine held_begin (S := fun w' => w'.cell? ⟨w.heap.size, 2, none⟩ = some (.string text) ∧ w'.cell? ⟨w.heap.size, 3, none⟩ = some (.int .i64 flag)) 28 (by rfl) (by kernel_rfl) ?_ (fun hHeld => ?_)
    · exact ⟨cell_drew (cell_drew (cell_of_block (block_new w _) rfl)), cell_drew (cell_drew (cell_of_block (block_new w _) rfl))⟩
    refine held_take 0 (some 86) (v := ?_) rfl rfl (by kernel_rfl) (by kernel_rfl) (by kernel_rfl) (fun _ _ _ _ h => h) (by kernel_rfl) ?_ hHeld ?_
    rotate_left 1
    · intro w hSw; (try dsimp only at hSw); go_simp; (try with_reducible rfl)
    try simp only [List.foldl_cons, List.foldl_nil, List.length_cons, List.length_nil, Act.put, List.setIfInBounds_toArray, List.set_cons_zero, List.set_cons_succ]
    refine held_take 1 (some 87) (v := ?_) rfl rfl (by kernel_rfl) (by kernel_rfl) (by kernel_rfl) (fun _ _ _ _ h => h) (by kernel_rfl) ?_ hHeld ?_
    rotate_left 1
    · intro w hSw; (try dsimp only at hSw); go_simp; (try with_reducible rfl)
    try simp only [List.foldl_cons, List.foldl_nil, List.length_cons, List.length_nil, Act.put, List.setIfInBounds_toArray, List.set_cons_zero, List.set_cons_succ]
    refine held_take 2 (some 88) (v := ?_) rfl rfl (by kernel_rfl) (by kernel_rfl) (by kernel_rfl) (fun _ _ _ _ h => h) (by kernel_rfl) ?_ hHeld ?_
    rotate_left 1
    · intro w hSw; (try dsimp only at hSw); go_simp; (try with_reducible rfl)
    try simp only [List.foldl_cons, List.foldl_nil, List.length_cons, List.length_nil, Act.put, List.setIfInBounds_toArray, List.set_cons_zero, List.set_cons_succ]
    refine held_take 3 (some 89) (v := ?_) rfl rfl (by kernel_rfl) (by kernel_rfl) (by kernel_rfl) (fun _ _ _ _ h => h) (by kernel_rfl) ?_ hHeld ?_
    rotate_left 1
    · intro w hSw; (try dsimp only at hSw); go_simp; (try with_reducible rfl)
    try simp only [List.foldl_cons, List.foldl_nil, List.length_cons, List.length_nil, Act.put, List.setIfInBounds_toArray, List.set_cons_zero, List.set_cons_succ]
    refine held_skips (fuel := 21) (by kernel_rfl) (fun _ _ _ _ h => h) [(4, some 90), (5, some 91), (6, some 92)] (by kernel_rfl) hHeld ?_
    try simp only [List.foldl_cons, List.foldl_nil, List.length_cons, List.length_nil, Act.put, List.setIfInBounds_toArray, List.set_cons_zero, List.set_cons_succ]
    refine held_take 7 (some 93) (v := ?_) rfl rfl (by kernel_rfl) (by kernel_rfl) (by kernel_rfl) (fun _ _ _ _ h => h) (by kernel_rfl) ?_ hHeld ?_
    rotate_left 1
    · intro w hSw; (try dsimp only at hSw); go_simp; (try with_reducible rfl)
    try simp only [List.foldl_cons, List.foldl_nil, List.length_cons, List.length_nil, Act.put, List.setIfInBounds_toArray, List.set_cons_zero, List.set_cons_succ]
    refine held_take 8 (some 94) (v := ?_) rfl rfl (by kernel_rfl) (by kernel_rfl) (by kernel_rfl) (fun _ _ _ _ h => h) (by kernel_rfl) ?_ hHeld ?_
    rotate_left 1
    · intro w hSw; (try dsimp only at hSw); go_simp; (try with_reducible rfl)
    try simp only [List.foldl_cons, List.foldl_nil, List.length_cons, List.length_nil, Act.put, List.setIfInBounds_toArray, List.set_cons_zero, List.set_cons_succ]
    refine held_take 9 (some 95) (v := ?_) rfl rfl (by kernel_rfl) (by kernel_rfl) (by kernel_rfl) (fun _ _ _ _ h => h) (by kernel_rfl) ?_ hHeld ?_
    rotate_left 1
    · intro w hSw; (try dsimp only at hSw); go_simp; (try with_reducible rfl)
    try simp only [List.foldl_cons, List.foldl_nil, List.length_cons, List.length_nil, Act.put, List.setIfInBounds_toArray, List.set_cons_zero, List.set_cons_succ]
    refine held_take 10 (some 96) (v := ?_) rfl rfl (by kernel_rfl) (by kernel_rfl) (by kernel_rfl) (fun _ _ _ _ h => h) (by kernel_rfl) ?_ hHeld ?_
    rotate_left 1
    · intro w hSw; (try dsimp only at hSw); go_simp; (try with_reducible rfl)
    try simp only [List.foldl_cons, List.foldl_nil, List.length_cons, List.length_nil, Act.put, List.setIfInBounds_toArray, List.set_cons_zero, List.set_cons_succ]
    refine held_take 13 (some 99) (v := ?_) rfl rfl (by kernel_rfl) (by kernel_rfl) (by kernel_rfl) (fun _ _ _ _ h => h) (by kernel_rfl) ?_ hHeld ?_
    rotate_left 1
    · intro w hSw; (try dsimp only at hSw); go_simp; (try with_reducible rfl)
    try simp only [List.foldl_cons, List.foldl_nil, List.length_cons, List.length_nil, Act.put, List.setIfInBounds_toArray, List.set_cons_zero, List.set_cons_succ]
    refine held_take 14 (some 100) (v := ?_) rfl rfl (by kernel_rfl) (by kernel_rfl) (by kernel_rfl) (fun _ _ _ _ h => h) (by kernel_rfl) ?_ hHeld ?_
    rotate_left 1
    · intro w hSw; (try dsimp only at hSw); go_simp; (try with_reducible rfl)
    try simp only [List.foldl_cons, List.foldl_nil, List.length_cons, List.length_nil, Act.put, List.setIfInBounds_toArray, List.set_cons_zero, List.set_cons_succ]
    refine held_take 15 (some 101) (v := ?_) rfl rfl (by kernel_rfl) (by kernel_rfl) (by kernel_rfl) (fun _ _ _ _ h => h) (by kernel_rfl) ?_ hHeld ?_
    rotate_left 1
    · intro w hSw; (try dsimp only at hSw); go_simp; (try with_reducible rfl)
    try simp only [List.foldl_cons, List.foldl_nil, List.length_cons, List.length_nil, Act.put, List.setIfInBounds_toArray, List.set_cons_zero, List.set_cons_succ]
    refine wpAnyH_ready (rs := [11]) (by kernel_rfl) (by simp) ?_
    refine AllReadyH.cons rfl (fun K hK => ?_) AllReadyH.nil
    go_simp
    (go_at_call 25; refine (identifier_any text hz _).mono ?_; rintro e w1 ⟨⟨r, rfl, -⟩, hb1⟩; have hbw : Below w.heap.size w w1 := below_step (Nat.le_refl _) (by go_grown) hb1)
    go_wp2_with fail
    have hOld := hHeld
    clear hHeld
    refine hK.out _ _ ?_ (fun hHeld => ?_)
    · exact ⟨cell_later hb1 hOld.1, cell_later hb1 hOld.2⟩
    clear hK K hOld
    try simp only [List.foldl_cons, List.foldl_nil, List.length_cons, List.length_nil, Act.put, List.setIfInBounds_toArray, List.set_cons_zero, List.set_cons_succ]
    refine held_take 12 (some 98) (v := ?_) rfl rfl (by kernel_rfl) (by kernel_rfl) (by kernel_rfl) (fun _ _ _ _ h => h) (by kernel_rfl) ?_ hHeld ?_
    rotate_left 1
    · intro w hSw; (try dsimp only at hSw); go_simp; (try with_reducible rfl)
    try simp only [List.foldl_cons, List.foldl_nil, List.length_cons, List.length_nil, Act.put, List.setIfInBounds_toArray, List.set_cons_zero, List.set_cons_succ]
    refine held_take 16 (some 102) (v := ?_) rfl rfl (by kernel_rfl) (by kernel_rfl) (by kernel_rfl) (fun _ _ _ _ h => h) (by kernel_rfl) ?_ hHeld ?_
    rotate_left 1
    · intro w hSw; (try dsimp only at hSw); go_simp; (try with_reducible rfl)
    try simp only [List.foldl_cons, List.foldl_nil, List.length_cons, List.length_nil, Act.put, List.setIfInBounds_toArray, List.set_cons_zero, List.set_cons_succ]
    refine held_skips (fuel := 8) (by kernel_rfl) (fun _ _ _ _ h => h) [(17, some 103), (18, some 104), (19, some 105)] (by kernel_rfl) hHeld ?_
    try simp only [List.foldl_cons, List.foldl_nil, List.length_cons, List.length_nil, Act.put, List.setIfInBounds_toArray, List.set_cons_zero, List.set_cons_succ]
    refine held_take 20 (some 106) (v := ?_) rfl rfl (by kernel_rfl) (by kernel_rfl) (by kernel_rfl) (fun _ _ _ _ h => h) (by kernel_rfl) ?_ hHeld ?_
    rotate_left 1
    · intro w hSw; (try dsimp only at hSw); go_simp; (try with_reducible rfl)
    try simp only [List.foldl_cons, List.foldl_nil, List.length_cons, List.length_nil, Act.put, List.setIfInBounds_toArray, List.set_cons_zero, List.set_cons_succ]
    refine held_take 21 (some 107) (v := ?_) rfl rfl (by kernel_rfl) (by kernel_rfl) (by kernel_rfl) (fun _ _ _ _ h => h) (by kernel_rfl) ?_ hHeld ?_
    rotate_left 1
    · intro w hSw; (try dsimp only at hSw); go_simp; (try with_reducible rfl)
    try simp only [List.foldl_cons, List.foldl_nil, List.length_cons, List.length_nil, Act.put, List.setIfInBounds_toArray, List.set_cons_zero, List.set_cons_succ]
    refine held_take 22 (some 108) (v := ?_) rfl rfl (by kernel_rfl) (by kernel_rfl) (by kernel_rfl) (fun _ _ _ _ h => h) (by kernel_rfl) ?_ hHeld ?_
    rotate_left 1
    · intro w hSw; (try dsimp only at hSw); go_simp; (try with_reducible rfl)
    try simp only [List.foldl_cons, List.foldl_nil, List.length_cons, List.length_nil, Act.put, List.setIfInBounds_toArray, List.set_cons_zero, List.set_cons_succ]
    refine held_take 23 (some 109) (v := ?_) rfl rfl (by kernel_rfl) (by kernel_rfl) (by kernel_rfl) (fun _ _ _ _ h => h) (by kernel_rfl) ?_ hHeld ?_
    rotate_left 1
    · intro w hSw; (try dsimp only at hSw); go_simp; (try with_reducible rfl)
    try simp only [List.foldl_cons, List.foldl_nil, List.length_cons, List.length_nil, Act.put, List.setIfInBounds_toArray, List.set_cons_zero, List.set_cons_succ]
    refine held_take 24 (some 110) (v := ?_) rfl rfl (by kernel_rfl) (by kernel_rfl) (by kernel_rfl) (fun _ _ _ _ h => h) (by kernel_rfl) ?_ hHeld ?_
    rotate_left 1
    · intro w hSw; (try dsimp only at hSw); go_simp; (try with_reducible rfl)
    try simp only [List.foldl_cons, List.foldl_nil, List.length_cons, List.length_nil, Act.put, List.setIfInBounds_toArray, List.set_cons_zero, List.set_cons_succ]
    refine held_take 25 (some 111) (v := ?_) rfl rfl (by kernel_rfl) (by kernel_rfl) (by kernel_rfl) (fun _ _ _ _ h => h) (by kernel_rfl) ?_ hHeld ?_
    rotate_left 1
    · intro w hSw; (try dsimp only at hSw); go_simp; (try with_reducible rfl)
    try simp only [List.foldl_cons, List.foldl_nil, List.length_cons, List.length_nil, Act.put, List.setIfInBounds_toArray, List.set_cons_zero, List.set_cons_succ]
    refine held_take 26 (some 5) (v := ?_) rfl rfl (by kernel_rfl) (by kernel_rfl) (by kernel_rfl) (fun _ _ _ _ h => h) (by kernel_rfl) ?_ hHeld ?_
    rotate_left 1
    · intro w hSw; (try dsimp only at hSw); go_simp; (try with_reducible rfl)
    try simp only [List.foldl_cons, List.foldl_nil, List.length_cons, List.length_nil, Act.put, List.setIfInBounds_toArray, List.set_cons_zero, List.set_cons_succ]
    refine held_take 27 (some 3) (v := ?_) rfl rfl (by kernel_rfl) (by kernel_rfl) (by kernel_rfl) (fun _ _ _ _ h => h) (by kernel_rfl) ?_ hHeld ?_
    rotate_left 1
    · intro w hSw; (try dsimp only at hSw); go_simp; (try with_reducible rfl)
    try simp only [List.foldl_cons, List.foldl_nil, List.length_cons, List.length_nil, Act.put, List.setIfInBounds_toArray, List.set_cons_zero, List.set_cons_succ]
    refine wpAnyH_done (by kernel_rfl) ?_ _
    go_wp2
    all_goals
      go_ret
      exact ⟨⟨_, rfl, fun h => by first | cases h | cases h⟩, by first | exact hbw | go_grown⟩

set_option maxRecDepth 100000 in
set_option maxHeartbeats 1600000 in
theorem bare_other (kind op flag size : Int) (text : ByteArray) (hz : text.size ≤ 4000) (hk : kind ∉ [(4 : Int), 5, 26, 27, 28, 8, 16, 33, 38, 32, 34, 9, 18, 25, 37, 22, 23, 35]) (w : World) :
    Calls Try.prog 16 #[(.agg #[.int .i64 kind, .int .i64 op, .string text, .int .i64 flag, .int .i64 size])] w fun e w' => Yes (BareOk kind op flag) e ∧ Below w.heap.size w w' := by
  simp only [List.mem_cons, List.not_mem_nil, or_false, not_or] at hk
  obtain ⟨k4, k5, k26, k27, k28, k8, k16, k33, k38, k32, k34, k9, k18, k25, k37, k22, k23, k35⟩ := hk
  have HP : Hid (BareOk kind op flag) := Lib.hid ⟨fun h => absurd h k22, fun h => absurd h k23, fun h => by
    simp only [List.mem_cons, List.not_mem_nil, or_false] at h
    omega, fun h => absurd h k35⟩
  go_enter Try.func16, Try.ntmps16
  go_wp2_with fail
  go_region
  go_wp2_with fail
  all_goals
    go_ret
    exact ⟨⟨_, rfl, fun h => by first | exact HP.out | cases h⟩, by first | exact hbw | go_grown⟩

theorem bare_yes (kind op flag size : Int) (text : ByteArray) (hz : text.size ≤ 4000) (w : World) :
    Calls Try.prog 16 #[(.agg #[.int .i64 kind, .int .i64 op, .string text, .int .i64 flag, .int .i64 size])] w fun e w' => Yes (BareOk kind op flag) e ∧ Below w.heap.size w w' := by
  by_cases hk : kind ∈ [(4 : Int), 5, 26, 27, 28, 8, 16, 33, 38, 32, 34, 9, 18, 25, 37, 22, 23, 35]
  · simp only [List.mem_cons, List.not_mem_nil, or_false] at hk
    rcases hk with rfl | rfl | rfl | rfl | rfl | rfl | rfl | rfl | rfl | rfl | rfl | rfl | rfl | rfl | rfl | rfl | rfl | rfl
    · exact bare_4 op flag size text hz w
    · exact bare_5 op flag size text hz w
    · exact bare_26 op flag size text hz w
    · exact bare_27 op flag size text hz w
    · exact bare_28 op flag size text hz w
    · exact bare_8 op flag size text hz w
    · exact bare_16 op flag size text hz w
    · exact bare_33 op flag size text hz w
    · exact bare_38 op flag size text hz w
    · exact bare_32 op flag size text hz w
    · exact bare_34 op flag size text hz w
    · exact bare_9 op flag size text hz w
    · exact bare_18 op flag size text hz w
    · exact bare_25 op flag size text hz w
    · exact bare_37 op flag size text hz w
    · exact bare_22 op flag size text hz w
    · exact bare_23 op flag size text hz w
    · exact bare_35 op flag size text hz w
  · exact bare_other kind op flag size text hz hk w
end Go.Proofs.Ytkpfbgeaodopoaa.fnDirect
