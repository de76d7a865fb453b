/-
  FnDirect: the recogniser's test of UTF-8: it returns.
-/
import Derived.Test.YtkpfbgeaodopoaaDirRecA
import Derived.Deep.QuietTactic
import Derived.BigQuiet
namespace Go.Proofs.Ytkpfbgeaodopoaa.fnDirect
open Go.RowKit
set_option linter.unusedSimpArgs false
set_option linter.unusedVariables false

/-- What Point tells. -/
def Pt (w : World) (e : Ending) (w' : World) : Prop := (∃ (p : Int) (n : Nat), e = .returned (.tuple #[.int .i64 p, .int .i64 n]) ∧ n ≤ 4) ∧ Below w.heap.size w w'

theorem Pt.mk {w w' : World} (p : Int) (n : Nat) (m : Int) (hm : m = n) (hn : n ≤ 4) (hb : Below w.heap.size w w') : Pt w (.returned (.tuple #[.int .i64 p, .int .i64 m])) w' := by
  subst hm
  exact ⟨⟨p, n, rfl, hn⟩, hb⟩

set_option maxRecDepth 100000 in
theorem point_else (s : ByteArray) (i : Nat) (hi : i < s.size) (hz : s.size ≤ 4000) (w : World) (c : Nat) (hc : s[i].toNat = c) (h : c < 194 ∨ 245 ≤ c) (h256 : c < 256) : Calls Try.prog 34 #[.string s, .int .i64 i] w (Pt w) := by
  have hcw : wrap64 (c : Int) = c := by go_arith
  have h1 : (c : Int) < 128 ∨ (¬ (c : Int) < 128 ∧ ¬ 194 ≤ (c : Int)) ∨ (¬ (c : Int) < 128 ∧ 245 ≤ (c : Int)) := by omega
  rcases h1 with h1 | ⟨h1, h2⟩ | ⟨h1, h2⟩
  · go_enter Try.func34, Try.ntmps34
    go_wp2
    go_ret2
    exact Pt.mk _ 1 _ rfl (by omega) (Below.refl _ _)
  · have h3 : ¬ 224 ≤ (c : Int) := by omega
    have h4 : ¬ 240 ≤ (c : Int) := by omega
    go_enter Try.func34, Try.ntmps34
    go_wp2
    go_ret2
    exact Pt.mk _ 0 _ rfl (by omega) (Below.refl _ _)
  · have h3 : ¬ (c : Int) < 224 := by omega
    have h4 : ¬ (c : Int) < 240 := by omega
    have h5 : ¬ (c : Int) < 245 := by omega
    go_enter Try.func34, Try.ntmps34
    go_wp2
    go_ret2
    exact Pt.mk _ 0 _ rfl (by omega) (Below.refl _ _)

theorem below_drewN (w : World) : ∀ n, Below w.heap.size w (w.drewN n)
  | 0 => Below.refl _ _
  | n + 1 => (below_drewN w n).drew

set_option maxRecDepth 100000 in
set_option maxHeartbeats 3200000 in
theorem point2_any (s : ByteArray) (i : Nat) (hi : i < s.size) (hz : s.size ≤ 4000) (w : World) (c : Nat) (hc : s[i].toNat = c) (h1 : 194 ≤ c) (h2 : c < 224) : Calls Try.prog 34 #[.string s, .int .i64 i] w (Pt w) := by
  have hcw : wrap64 (c : Int) = c := by go_arith
  have g1 : ¬ (c : Int) < 128 := by omega
  have g2 : 194 ≤ (c : Int) := by omega
  have g3 : (c : Int) < 224 := by omega
  have g4 : ¬ 224 ≤ (c : Int) := by omega
  have g6 : ¬ 240 ≤ (c : Int) := by omega
  have k1 : 0 ≤ (i : Int) + 1 := by omega
  have k2 : 0 ≤ (i : Int) + 2 := by omega
  have k3 : 0 ≤ (i : Int) + 3 := by omega
  have k4 : ((i : Int) + 1).toNat = i + 1 := by omega
  have k5 : ((i : Int) + 2).toNat = i + 2 := by omega
  have k6 : ((i : Int) + 3).toNat = i + 3 := by omega
  clear h1 h2
  go_enter Try.func34, Try.ntmps34
  go_wp2_with (go_at_call 41; refine (continued_int s _ (by omega) (by omega) hz _).mono ?_; rintro e w1 ⟨⟨r, rfl, hr⟩, rfl⟩; cases r; (rotate_left; have hr' := hr rfl; clear hr); (rotate_left; clear hr))
  all_goals
    go_ret2
    first | exact Pt.mk _ 0 _ rfl (by omega) (Below.refl _ _) | exact Pt.mk _ 2 _ rfl (by omega) (Below.refl _ _)

set_option maxRecDepth 100000 in
set_option maxHeartbeats 3200000 in
theorem point3_any (s : ByteArray) (i : Nat) (hi : i < s.size) (hz : s.size ≤ 4000) (w : World) (c : Nat) (hc : s[i].toNat = c) (h1 : 224 ≤ c) (h2 : c < 240) : Calls Try.prog 34 #[.string s, .int .i64 i] w (Pt w) := by
  have hcw : wrap64 (c : Int) = c := by go_arith
  have g1 : ¬ (c : Int) < 128 := by omega
  have g2 : 194 ≤ (c : Int) := by omega
  have g3 : ¬ (c : Int) < 224 := by omega
  have g4 : 224 ≤ (c : Int) := by omega
  have g5 : (c : Int) < 240 := by omega
  have g6 : ¬ 240 ≤ (c : Int) := by omega
  have k1 : 0 ≤ (i : Int) + 1 := by omega
  have k2 : 0 ≤ (i : Int) + 2 := by omega
  have k3 : 0 ≤ (i : Int) + 3 := by omega
  have k4 : ((i : Int) + 1).toNat = i + 1 := by omega
  have k5 : ((i : Int) + 2).toNat = i + 2 := by omega
  have k6 : ((i : Int) + 3).toNat = i + 3 := by omega
  clear h1 h2
  go_enter Try.func34, Try.ntmps34
  go_wp2_with (go_at_call 41; refine (continued_int s _ (by omega) (by omega) hz _).mono ?_; rintro e w1 ⟨⟨r, rfl, hr⟩, rfl⟩; cases r; (rotate_left; have hr' := hr rfl; clear hr); (rotate_left; clear hr))
  · go_ret2
    exact Pt.mk _ 0 _ rfl (by omega) (Below.refl _ _)
  · go_ret2
    exact Pt.mk _ 0 _ rfl (by omega) (Below.refl _ _)
  go_quiet (fail)
  go_wp2
  all_goals
    go_ret2
    first | exact Pt.mk _ 0 _ rfl (by omega) (below_drewN _ _) | exact Pt.mk _ 3 _ rfl (by omega) (below_drewN _ _)

set_option maxRecDepth 100000 in
set_option maxHeartbeats 3200000 in
theorem point4_any (s : ByteArray) (i : Nat) (hi : i < s.size) (hz : s.size ≤ 4000) (w : World) (c : Nat) (hc : s[i].toNat = c) (h1 : 240 ≤ c) (h2 : c < 245) : Calls Try.prog 34 #[.string s, .int .i64 i] w (Pt w) := by
  have hcw : wrap64 (c : Int) = c := by go_arith
  have g1 : ¬ (c : Int) < 128 := by omega
  have g2 : 194 ≤ (c : Int) := by omega
  have g3 : ¬ (c : Int) < 224 := by omega
  have g4 : 224 ≤ (c : Int) := by omega
  have g5 : ¬ (c : Int) < 240 := by omega
  have g6 : 240 ≤ (c : Int) := by omega
  have g7 : (c : Int) < 245 := by omega
  have k1 : 0 ≤ (i : Int) + 1 := by omega
  have k2 : 0 ≤ (i : Int) + 2 := by omega
  have k3 : 0 ≤ (i : Int) + 3 := by omega
  have k4 : ((i : Int) + 1).toNat = i + 1 := by omega
  have k5 : ((i : Int) + 2).toNat = i + 2 := by omega
  have k6 : ((i : Int) + 3).toNat = i + 3 := by omega
  clear h1 h2
  go_enter Try.func34, Try.ntmps34
  go_wp2_with (go_at_call 41; refine (continued_int s _ (by omega) (by omega) hz _).mono ?_; rintro e w1 ⟨⟨r, rfl, hr⟩, rfl⟩; cases r; (rotate_left; have hr' := hr rfl; clear hr); (rotate_left; clear hr))
  any_goals (go_ret2; exact Pt.mk _ 0 _ rfl (by omega) (Below.refl _ _))
  go_quiet (fail)
  go_wp2
  all_goals
    go_ret2
    first | exact Pt.mk _ 0 _ rfl (by omega) (below_drewN _ _) | exact Pt.mk _ 4 _ rfl (by omega) (below_drewN _ _)

set_option maxRecDepth 100000 in
theorem point_any (s : ByteArray) (i : Nat) (hi : i < s.size) (hz : s.size ≤ 4000) (w : World) : Calls Try.prog 34 #[.string s, .int .i64 i] w (Pt w) := by
  have hb : s[i].toNat < 256 := UInt8.toNat_lt _
  obtain ⟨c, hc⟩ : ∃ c, s[i].toNat = c := ⟨_, rfl⟩
  by_cases h1 : c < 194
  · exact point_else s i hi hz w c hc (.inl h1) (by omega)
  by_cases h2 : c < 224
  · exact point2_any s i hi hz w c hc (by omega) h2
  by_cases h3 : c < 240
  · exact point3_any s i hi hz w c hc (by omega) h3
  by_cases h4 : c < 245
  · exact point4_any s i hi hz w c hc (by omega) h4
  · exact point_else s i hi hz w c hc (.inr (by omega)) (by omega)

set_option maxRecDepth 100000 in
theorem points_any (s : ByteArray) (hz : s.size ≤ 4000) (w : World) : Calls Try.prog 24 #[.string s] w fun e w' => Yes True e ∧ Below w.heap.size w w' := by
  go_enter Try.func24, Try.ntmps24
  go_wp2
  go_loopw [3] (fun v wr => ∃ k : Nat, k ≤ s.size + 4 ∧ v = .int .i64 k ∧ Below w.heap.size w wr) (fun v _ => s.size + 4 - (intOf v).toNat)
  case atStart => exact ⟨0, Nat.zero_le _, rfl, Below.refl _ _⟩
  case round =>
    obtain ⟨k, hk, rfl, hbel⟩ := hrel
    by_cases hlt : k < s.size
    · go_wp2_with (go_at_call 34; refine (point_any s k hlt hz _).mono ?_; rintro e w1 ⟨⟨p, n, rfl, hn⟩, hb1⟩; have hb2 := below_step (Nat.le_refl _) hbel hb1; rcases Nat.eq_zero_or_pos n with rfl | hn0)
      · go_ret
        exact ⟨⟨_, rfl, fun _ => trivial⟩, hb2⟩
      · go_roundw
        case rel => exact ⟨k + n, by omega, by go_num, hb2⟩
        case measure => first | (simp [intOf]; done) | (simp [intOf]; omega)
    · go_wp2
      go_ret
      exact ⟨⟨_, rfl, fun _ => trivial⟩, hbel⟩
end Go.Proofs.Ytkpfbgeaodopoaa.fnDirect
