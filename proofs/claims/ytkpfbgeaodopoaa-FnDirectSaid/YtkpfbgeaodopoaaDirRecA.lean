/-
  FnDirect: the recogniser's tests of texts: they return.
-/
import Derived.Test.YtkpfbgeaodopoaaDirMade
namespace Go.Proofs.Ytkpfbgeaodopoaa.fnDirect
open Go.RowKit
set_option linter.unusedSimpArgs false
set_option linter.unusedVariables false

/-- A Bool is handed back; if it is true this holds. -/
def Yes (p : Prop) (e : Ending) : Prop := ∃ r, e = .returned (.bool r) ∧ (r = true → p)

theorem letter_any (c : Int) (w : World) : Calls Try.prog 42 #[.int .u8 c] w fun e w' => Yes True e ∧ w' = w := by
  go_enter Try.func42, Try.ntmps42
  go_wp2
  all_goals
    go_ret
    exact ⟨⟨_, rfl, fun _ => trivial⟩, rfl⟩

theorem digit_any (c : Int) (w : World) : Calls Try.prog 33 #[.int .u8 c] w fun e w' => Yes True e ∧ w' = w := by
  go_enter Try.func33, Try.ntmps33
  go_wp2
  all_goals
    go_ret
    exact ⟨⟨_, rfl, fun _ => trivial⟩, rfl⟩

theorem toList_nil {s : ByteArray} (h : s.size = 0) : s.toList = [] := by
  unfold ByteArray.toList ByteArray.toList.loop
  simp [h]

set_option maxRecDepth 100000 in
theorem word_any (s : ByteArray) (hz : s.size ≤ 4000) (w : World) : Calls Try.prog 35 #[.string s] w fun e w' => Yes True e ∧ w' = w := by
  by_cases h0 : s.toList.isEmpty = true
  · go_enter Try.func35, Try.ntmps35
    go_wp2
    go_ret
    exact ⟨⟨_, rfl, fun _ => trivial⟩, rfl⟩
  have hpos : 0 < s.size := Nat.pos_of_ne_zero (fun h => h0 (by rw [toList_nil h]; rfl))
  have h1 : s.toList.isEmpty = false := by simpa using h0
  clear h0
  go_enter Try.func35, Try.ntmps35
  go_wp2_with (go_at_call 42; refine (letter_any _ _).mono ?_; rintro e w1 ⟨⟨r, rfl, -⟩, rfl⟩; cases r)
  · go_ret
    exact ⟨⟨_, rfl, fun _ => trivial⟩, rfl⟩
  go_loop [3] (fun i => ∃ k : Nat, k ≤ s.size ∧ i = .int .i64 k) (fun i => s.size - (intOf i).toNat)
  case atStart => exact ⟨1, hpos, rfl⟩
  case round =>
    obtain ⟨k, hk, rfl⟩ := hrel
    by_cases hlt : k < s.size
    · go_wp2_with (first | (go_at_call 42; refine (letter_any _ _).mono ?_; rintro e w1 ⟨⟨r, rfl, -⟩, rfl⟩; cases r) | (go_at_call 33; refine (digit_any _ _).mono ?_; rintro e w1 ⟨⟨r, rfl, -⟩, rfl⟩; cases r))
      all_goals first
        | (go_ret; exact ⟨⟨_, rfl, fun _ => trivial⟩, rfl⟩)
        | (go_round
           case rel => exact ⟨k + 1, by omega, by go_num⟩
           case measure => first | (simp [intOf]; done) | (simp [intOf]; omega))
    · go_wp2
      go_ret
      exact ⟨⟨_, rfl, fun _ => trivial⟩, rfl⟩

/-- Is a value a string? -/
def isStr : Value → Bool
  | .string _ => true
  | _ => false

theorem all_str (w : World) (C : Array Value) (t : TypeId) (h : C.toList.all isStr = true) (j : Nat) (hj : j < C.size) : ∃ s, (w.alloc (.cells C t)).cell? ⟨w.heap.size, j, none⟩ = some (.string s) := by
  rw [World.cell?_alloc_mark, Array.getElem?_eq_getElem hj]
  have := List.all_eq_true.1 h C[j] (by simp)
  cases hv : C[j] <;> rw [hv] at this <;> first | exact ⟨_, rfl⟩ | cases this

set_option maxRecDepth 100000 in
theorem keyword_any (s : ByteArray) (w : World) : Calls Try.prog 36 #[.string s] w fun e w' => Yes True e ∧ Below w.heap.size w w' := by
  go_enter Try.func36, Try.ntmps36
  go_wp2_with fail
  go_loopw [4] (fun i wr => ∃ k : Nat, k ≤ 18 ∧ i = .int .i64 k ∧ Below w.heap.size w wr ∧ Hid (∀ j, j < 18 → ∃ t, wr.cell? ⟨w.heap.size, j, none⟩ = some (.string t))) (fun i _ => 18 - (intOf i).toNat)
  case atStart => exact ⟨0, by omega, rfl, by go_grown, Lib.hid (fun j hj => all_str w _ _ rfl j hj)⟩
  case round =>
    obtain ⟨k, hk, rfl, hbel, HC⟩ := hrel
    by_cases hlt : k < 18
    · obtain ⟨t, ht⟩ := HC.out k hlt
      cases hts : (t.toList == s.toList)
      · go_wp2
        go_roundw
        case rel => exact ⟨k + 1, by omega, by go_num, hbel, HC⟩
        case measure => first | (simp [intOf]; done) | (simp [intOf]; omega)
      · go_wp2
        go_ret
        exact ⟨⟨_, rfl, fun _ => trivial⟩, hbel⟩
    · go_wp2
      go_ret
      exact ⟨⟨_, rfl, fun _ => trivial⟩, hbel⟩

set_option maxRecDepth 100000 in
theorem identifier_any (s : ByteArray) (hz : s.size ≤ 4000) (w : World) : Calls Try.prog 25 #[.string s] w fun e w' => Yes True e ∧ Below w.heap.size w w' := by
  go_enter Try.func25, Try.ntmps25
  go_wp2_with (first | (go_at_call 35; refine (word_any s hz _).mono ?_; rintro e w1 ⟨⟨r, rfl, -⟩, rfl⟩; cases r) | (go_at_call 36; refine (keyword_any s _).mono ?_; rintro e w2 ⟨⟨r, rfl, -⟩, hb2⟩; cases r))
  all_goals
    go_ret
    exact ⟨⟨_, rfl, fun _ => trivial⟩, by first | exact hb2 | exact Below.refl _ _⟩

set_option maxRecDepth 100000 in
theorem digits_any (s : ByteArray) (hz : s.size ≤ 4000) (i : Nat) (hi : i ≤ s.size) (w : World) : Calls Try.prog 32 #[.string s, .int .i64 i] w fun e w' => (∃ q : Nat, e = .returned (.int .i64 q) ∧ i ≤ q ∧ q ≤ s.size) ∧ w' = w := by
  go_enter Try.func32, Try.ntmps32
  go_wp2
  go_loop [1] (fun v => ∃ k : Nat, i ≤ k ∧ k ≤ s.size ∧ v = .int .i64 k) (fun v => s.size - (intOf v).toNat)
  case atStart => exact ⟨i, Nat.le_refl _, hi, rfl⟩
  case round =>
    obtain ⟨k, hik, hk, rfl⟩ := hrel
    by_cases hlt : k < s.size
    · go_wp2_with (go_at_call 33; refine (digit_any _ _).mono ?_; rintro e w1 ⟨⟨r, rfl, -⟩, rfl⟩; cases r)
      · go_ret
        exact ⟨⟨k, rfl, hik, hk⟩, rfl⟩
      · go_round
        case rel => exact ⟨k + 1, by omega, by omega, by go_num⟩
        case measure => first | (simp [intOf]; done) | (simp [intOf]; omega)
    · go_wp2
      go_ret
      exact ⟨⟨k, rfl, hik, hk⟩, rfl⟩

theorem digits_int (s : ByteArray) (hz : s.size ≤ 4000) (i : Int) (h0 : 0 ≤ i) (hi : i ≤ s.size) (w : World) : Calls Try.prog 32 #[.string s, .int .i64 i] w fun e w' => (∃ q : Nat, e = .returned (.int .i64 q) ∧ i ≤ q ∧ q ≤ s.size) ∧ w' = w := by
  obtain ⟨k, rfl⟩ : ∃ k : Nat, i = k := ⟨i.toNat, by omega⟩
  refine (digits_any s hz k (by omega) w).mono ?_
  rintro e w' ⟨⟨q, rfl, h1, h2⟩, rfl⟩
  exact ⟨⟨q, rfl, by omega, h2⟩, rfl⟩

set_option maxRecDepth 100000 in
set_option maxHeartbeats 3200000 in
theorem number_any (s : ByteArray) (hz : s.size ≤ 4000) (w : World) : Calls Try.prog 23 #[.string s] w fun e w' => (∃ q : Int, e = .returned (.int .i64 q)) ∧ w' = w := by
  go_enter Try.func23, Try.ntmps23
  go_wp2_with (first | (go_at_call 32; refine (digits_int s hz _ (by omega) (by omega) _).mono ?_; rintro e w1 ⟨⟨q, rfl, hq1, hq2⟩, rfl⟩) | (go_at_call 33; refine (digit_any _ _).mono ?_; rintro e w1 ⟨⟨r, rfl, -⟩, rfl⟩; cases r))
  all_goals first
    | (go_ret; exact ⟨⟨_, rfl⟩, rfl⟩)
    | (exfalso; simp only [beq_eq_false_iff_ne, ne_eq] at *; omega)

set_option maxRecDepth 100000 in
theorem continued_any (s : ByteArray) (i : Nat) (hi : i ≤ 5000) (hz : s.size ≤ 4000) (w : World) : Calls Try.prog 41 #[.string s, .int .i64 i] w fun e w' => Yes (i < s.size) e ∧ w' = w := by
  by_cases h : i < s.size
  · go_enter Try.func41, Try.ntmps41
    go_wp2
    all_goals
      go_ret
      exact ⟨⟨_, rfl, fun _ => by first | exact h | trivial⟩, rfl⟩
  · go_enter Try.func41, Try.ntmps41
    go_wp2
    go_ret
    exact ⟨⟨_, rfl, fun h => by cases h⟩, rfl⟩

theorem continued_int (s : ByteArray) (i : Int) (h0 : 0 ≤ i) (hi : i ≤ 5000) (hz : s.size ≤ 4000) (w : World) : Calls Try.prog 41 #[.string s, .int .i64 i] w fun e w' => Yes (i < s.size) e ∧ w' = w := by
  obtain ⟨k, rfl⟩ : ∃ k : Nat, i = k := ⟨i.toNat, by omega⟩
  refine (continued_any s k (by omega) hz w).mono ?_
  rintro e w' ⟨⟨r, rfl, h⟩, rfl⟩
  exact ⟨⟨r, rfl, fun hr => by have := h hr; omega⟩, rfl⟩
end Go.Proofs.Ytkpfbgeaodopoaa.fnDirect
